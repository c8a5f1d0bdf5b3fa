import Derived.Test.Qxb6605375aCf
namespace Go.Proofs.Qxb6605375a
open Go.RowKit

set_option maxRecDepth 100000 in
set_option maxHeartbeats 4000000 in
theorem law_sn (avg seed small large : Int) (gs : List Int) (hgs : gs.length = 256) (ad5 : Addr) (zs ts : List Int) (cap5 cap6 : Nat) (w : World)
    (h5 : BAt w (some ad5) zs) (b5 : ∀ i, 0 ≤ zs.getD i 0 ∧ zs.getD i 0 ≤ 255) (h6 : BAt w none ts) (b6 : ∀ i, 0 ≤ ts.getD i 0 ∧ ts.getD i 0 ≤ 255) (ht0 : ts.length = 0) :
    Calls Try.prog 3 #[.int .i64 avg, .int .u32 seed, .agg (gearV gs), .int .u64 small, .int .u64 large, .slice (some ad5) zs.length cap5, .slice none ts.length cap6] w fun e w' => e = .returned (.bool true) ∧ Below w.heap.size w w' := by
  have HT0 : Hid (ts.length = 0) := ht0
  clear ht0
  obtain ⟨G, hGv⟩ : ∃ G, G = gearV gs := ⟨_, rfl⟩
  have HG : Hid (G = gearV gs) := hGv
  have hiG := info24 G (by rw [hGv]; exact gearV_size gs hgs)
  rw [← hGv]
  clear hGv
  have q25 : ∀ (w : World) (a : Option Addr) (n c n' c' : Nat), (binOp .neq 25 (.slice a n c) (.slice none n' c')).run Try.prog w = .ok (.bool (!a.isNone)) w := fun w a n c n' c' => run_neq_slice_nil_any w _ _ a n c n' c' Try.underlying25
  obtain ⟨i0, hi, hz0, hz1, hz2⟩ := info_parts info5
  have hg0 := heap_alloc_new w (.cells G 24)
  have H5' : Hid (BAt w (some ad5) zs) := h5
  have H6' : Hid (BAt w none ts) := h6
  have HY5 : Hid (∀ i, 0 ≤ zs.getD i 0 ∧ zs.getD i 0 ≤ 255) := b5
  have HY6 : Hid (∀ i, 0 ≤ ts.getD i 0 ∧ ts.getD i 0 ≤ 255) := b6
  clear h5 h6 b5 b6
  go_enter Try.func3, Try.ntmps3
  go_wp2_with (refine wpList_load_row rfl 24 (.tmp 9) rfl w.heap.size rfl 24 G (0, 0) _ hg0 Try.underlying24 rfl hiG ?_)
  refine (bytes_any avg seed small large G (some ad5) none zs.length ts.length cap5 cap6 _).mono ?_
  rintro e w1 ⟨b1, rfl, hb1⟩
  have hz01 : w.heap.size < w1.heap.size := by have := hb1.size; simp at this; omega
  have HB1 : Hid (Below w.heap.size w w1) := ((Below.refl _ _).alloc (Nat.le_refl _) _).trans (hb1.mono (by simp))
  have hg1 : w1.heap[w.heap.size]? = some (.cells G 24) := heap_kept hb1 (by simp) hg0
  have H5 : Hid (BAt w1 (some ad5) zs) := H5'.out.kept HB1.out
  have H6 : Hid (BAt w1 none ts) := H6'.out.kept HB1.out
  clear hb1 hg0 H5' H6'
  cases b1
  · go_wp2
    go_ret
    exact ⟨rfl, HB1.out⟩
  by_cases c1 : (1048576 : Int) < (zs.length : Int)
  · go_wp2
    go_ret
    exact ⟨rfl, HB1.out⟩
  by_cases c2 : (1048576 : Int) < (ts.length : Int)
  · go_wp2
    go_ret
    exact ⟨rfl, HB1.out⟩
  by_cases c3 : (1048576 : Int) < (zs.length : Int) + (ts.length : Int)
  · go_wp2
    go_ret
    exact ⟨rfl, HB1.out⟩
  by_cases c4 : (268435456 : Int) < avg
  · go_wp2
    go_ret
    exact ⟨rfl, HB1.out⟩
  by_cases c5 : avg < -268435456
  · go_wp2
    go_ret
    exact ⟨rfl, HB1.out⟩
  go_wp2_with (first | (at_make; refine wpList_make_full _ rfl _ _ 25 rfl w1.heap.size 5 i0 (.int .u8 0) 1 Try.underlying25 hi hz0 hz1 _ _ _ _ zs.length rfl rfl (by omega) (by omega) ?ma1 ?ma2 ?ma3 ?_))
  case ma1 => rw [hz2]; omega
  case ma2 => unfold maxLen; omega
  case ma3 => exact Nat.le_refl _
  intro wma hown hgr
  have hbm : Below w1.heap.size w1 wma := (Below.refl _ _).grown hgr (Nat.le_refl _) (by simp)
  clear hgr
  go_wp2
  go_loopw [16] (fun i wr => ∃ k : Nat, k ≤ zs.length ∧ i = .int .i64 k ∧ Below w1.heap.size w1 wr ∧ ∃ L, wr.ownsRow w1.heap.size 5 1 (.slice (some ⟨w1.heap.size, 0, none⟩) zs.length zs.length) zs.length L ∧ Part zs k L) (fun i _ => zs.length - (intOf i).toNat)
  case atStart => exact ⟨0, Nat.zero_le _, rfl, hbm, _, hown, fun i h => by omega⟩
  case round =>
    clear hown hbm
    obtain ⟨k, hk, rfl, hbr, L, hown, hpart⟩ := hrel
    by_cases hlt : k < zs.length
    · obtain ⟨b, off, had, hblt, hc⟩ := H5.out k hlt
      obtain ⟨y, hy⟩ : ∃ y, zs.getD k 0 = y := ⟨_, rfl⟩
      rw [hy] at hc
      cases had
      have hcr : wr.cell? ⟨b, off + k, none⟩ = some (.int .u8 y) := (hbr.cell (p := ⟨b, off + k, none⟩) hblt).trans hc
      have hLk : k < L.length := by have := hown.1; omega
      have hcd : wr.cell? ⟨w1.heap.size, k, none⟩ = some L[k] := by rw [hown.cellAt k (by omega), List.getElem?_eq_getElem hLk]
      have hfd := hown.frozenAt k
      have HP : Hid (Part zs (k + 1) (L.set k (.int .u8 y))) := hpart.step hy hLk
      have HOW : Hid ((wr.setCell ⟨w1.heap.size, k, none⟩ (.int .u8 y)).ownsRow w1.heap.size 5 1 (.slice (some ⟨w1.heap.size, 0, none⟩) zs.length zs.length) zs.length (L.set k (.int .u8 y))) := (hown.stored k (.int .u8 y)).1
      have HBR : Hid (Below w1.heap.size w1 (wr.setCell ⟨w1.heap.size, k, none⟩ (.int .u8 y))) := hbr.setCell (Nat.le_refl _) _
      clear hc hpart hown hbr hy
      go_wp2
      go_roundw
      case rel => exact ⟨k + 1, by omega, by go_num, HBR.out, _, HOW.out, HP.out⟩
      case measure => simp [intOf]; omega
    · have HN5 : Hid (BAt wr (some ⟨w1.heap.size, 0, none⟩) zs) := by
        obtain rfl : k = zs.length := by omega
        exact bat_of_own hown hpart rfl
      clear hpart hown
      obtain ⟨w2, hw2⟩ : ∃ w2, w2 = wr := ⟨_, rfl⟩
      subst hw2
      have hz02 : w.heap.size < w2.heap.size := by have := hbr.size; omega
      have HB2 : Hid (Below w.heap.size w w2) := HB1.out.trans (hbr.mono HB1.out.size)
      have hg2 : w2.heap[w.heap.size]? = some (.cells G 24) := heap_kept hbr hz01 hg1
      have HQ5 : Hid (BAt w2 (some ⟨w1.heap.size, 0, none⟩) zs) := HN5.out
      have HQ6 : Hid (BAt w2 none ts) := H6.out.kept hbr
      clear hbr hg1 HN5 H6
      have HB3 : Hid (Below w.heap.size w w2) := HB2.out
      have hg3 : w2.heap[w.heap.size]? = some (.cells G 24) := hg2
      have HN5 : Hid (BAt w2 (some ⟨w1.heap.size, 0, none⟩) zs) := HQ5.out
      have HN6 : Hid (BAt w2 none ts) := HQ6.out
      go_wp2_with (refine wpList_load_row rfl 24 (.tmp 9) rfl w.heap.size rfl 24 G (0, 0) _ hg3 Try.underlying24 rfl hiG ?_)
      refine (new_is avg seed small large gs G HG.out hgs w2).mono ?_
      rintro e w4 ⟨g, rfl, hch, hb4⟩
      have hz04 : w.heap.size ≤ w4.heap.size := by have := hb4.size; have := HB3.out.size; omega
      have HB4 : Hid (Below w.heap.size w w4) := HB3.out.trans (hb4.mono HB3.out.size)
      have HCH : Hid (Chunk w4 g avg seed small large gs) := hch
      have HM5 : Hid (BAt w4 (some ⟨w1.heap.size, 0, none⟩) zs) := HN5.out.kept hb4
      have HM6 : Hid (BAt w4 none ts) := HN6.out.kept hb4
      clear hb4 hch hg3 HN5 HN6
      by_cases hMn : avg * 4 < (zs.length : Int)
      · by_cases hsm : avg * 4 ≤ avg.tdiv 4
        · go_wp2_with fail
          refine (cut_small g avg seed small large gs (some ⟨w1.heap.size, 0, none⟩) zs.length zs.length (avg * 4) (avg.tdiv 4) (avg * 4) w4 HCH.out (by omega) (by omega) (by omega) rfl rfl (Or.inr ⟨hMn, rfl⟩) hsm).mono ?_
          rintro e w5 ⟨rfl, hb5⟩
          have HB5 : Hid (Below w.heap.size w w5) := HB4.out.trans (hb5.mono (by omega))
          clear hb5
          go_wp2
          go_ret
          exact ⟨rfl, HB5.out⟩
        · have hav : 0 ≤ avg := pos_of_big hsm
          have HTD : Hid (avg.tdiv 4 = avg / 4) := Int.tdiv_eq_ediv_of_nonneg hav
          obtain ⟨M, hM⟩ : ∃ M : Nat, avg * 4 = (M : Int) := ⟨(avg * 4).toNat, by omega⟩
          obtain ⟨L, hL⟩ : ∃ L : Nat, avg / 4 = (L : Int) := ⟨(avg / 4).toNat, by omega⟩
          have hL' : avg.tdiv 4 = (L : Int) := by rw [HTD.out]; exact hL
          rw [hL'] at hsm
          rw [hM] at hMn
          rw [hM] at hsm
          have HR : MinOf zs.length M M := Or.inr ⟨by omega, rfl⟩
          have hLR : L < M := by omega
          have HM' : Hid (avg * 4 = (M : Int)) := hM
          have HL' : Hid (avg.tdiv 4 = (L : Int)) := hL'
          clear HTD
          go_wp2_with fail
          refine (cut_at g avg seed small large gs (some ⟨w1.heap.size, 0, none⟩) zs zs.length zs.length M L M (L - L % 2) w4 HCH.out hav (by omega) rfl (by omega) HM'.out HL'.out rfl HR hLR HM5.out HY5.out).mono ?_
          rintro e w5 ⟨cc, rfl, hf, hb5⟩
          have hbd := first_bd hf (by omega)
          have hcc1 : L ≤ cc + 1 := by omega
          have hcc2 : cc ≤ M := hbd.2
          clear hbd
          have HF1 : Hid (FirstHit (hit zs gs (L - L % 2) avg small large) (L - L % 2) M cc) := hf
          have HB5 : Hid (Below w.heap.size w w5) := HB4.out.trans (hb5.mono hz04)
          have HCH5 : Hid (Chunk w5 g avg seed small large gs) := HCH.out.kept hb5
          have HP5 : Hid (BAt w5 (some ⟨w1.heap.size, 0, none⟩) zs) := HM5.out.kept hb5
          have HP6 : Hid (BAt w5 none ts) := HM6.out.kept hb5
          clear hf hb5 HB4 HCH HM5 HM6
          go_wp2_with (first | (at_make; refine wpList_make_full _ rfl _ _ 25 rfl w5.heap.size 5 i0 (.int .u8 0) 1 Try.underlying25 hi hz0 hz1 _ _ _ _ (zs.length + ts.length) rfl rfl (by omega) (by omega) ?mc1 ?mc2 ?mc3 ?_))
          case mc1 => rw [hz2]; omega
          case mc2 => unfold maxLen; omega
          case mc3 => exact Nat.le_refl _
          intro wmc hown hgr
          have hbm : Below w5.heap.size w5 wmc := (Below.refl _ _).grown hgr (Nat.le_refl _) (by simp)
          clear hgr
          go_wp2
          go_loopw [25] (fun i wr => ∃ k : Nat, k ≤ zs.length ∧ i = .int .i64 k ∧ Below w5.heap.size w5 wr ∧ ∃ LL, wr.ownsRow w5.heap.size 5 1 (.slice (some ⟨w5.heap.size, 0, none⟩) (zs.length + ts.length) (zs.length + ts.length)) (zs.length + ts.length) LL ∧ Part (zs ++ ts) k LL) (fun i _ => zs.length - (intOf i).toNat)
          case atStart => exact ⟨0, Nat.zero_le _, rfl, hbm, _, hown, fun i h => by omega⟩
          case round =>
            clear hown hbm
            obtain ⟨k, hk, rfl, hbr, LL, hown, hpart⟩ := hrel
            by_cases hlt : k < zs.length
            · obtain ⟨b, off, had, hblt, hc⟩ := HP5.out k hlt
              obtain ⟨y, hy⟩ : ∃ y, zs.getD k 0 = y := ⟨_, rfl⟩
              rw [hy] at hc
              have hy2 : (zs ++ ts).getD k 0 = y := by rw [← hy]; exact getD_left zs ts k hlt
              cases had
              have hcr : wr.cell? ⟨w1.heap.size, 0 + k, none⟩ = some (.int .u8 y) := (hbr.cell (p := ⟨w1.heap.size, 0 + k, none⟩) hblt).trans hc
              rw [Nat.zero_add] at hcr
              have hLk : k < LL.length := by have := hown.1; omega
              have hcd : wr.cell? ⟨w5.heap.size, k, none⟩ = some LL[k] := by rw [hown.cellAt k (by omega), List.getElem?_eq_getElem hLk]
              have hfd := hown.frozenAt k
              have HPA : Hid (Part (zs ++ ts) (k + 1) (LL.set k (.int .u8 y))) := hpart.step hy2 hLk
              have HOW : Hid ((wr.setCell ⟨w5.heap.size, k, none⟩ (.int .u8 y)).ownsRow w5.heap.size 5 1 (.slice (some ⟨w5.heap.size, 0, none⟩) (zs.length + ts.length) (zs.length + ts.length)) (zs.length + ts.length) (LL.set k (.int .u8 y))) := (hown.stored k (.int .u8 y)).1
              have HBR : Hid (Below w5.heap.size w5 (wr.setCell ⟨w5.heap.size, k, none⟩ (.int .u8 y))) := hbr.setCell (Nat.le_refl _) _
              have hkI : (k : Int) < (zs.length : Int) + (ts.length : Int) := by omega
              clear hc hpart hown hbr hy hy2 hblt
              go_wp2
              go_roundw
              case rel => exact ⟨k + 1, by omega, by go_num, HBR.out, _, HOW.out, HPA.out⟩
              case measure => simp [intOf]; omega
            · have hke : k = zs.length := by omega
              subst hke
              obtain ⟨w6, hw6⟩ : ∃ w6, w6 = wr := ⟨_, rfl⟩
              subst hw6
              go_wp2
              go_loopw [26] (fun i wr => ∃ k : Nat, k ≤ ts.length ∧ i = .int .i64 k ∧ Below w5.heap.size w5 wr ∧ ∃ LL, wr.ownsRow w5.heap.size 5 1 (.slice (some ⟨w5.heap.size, 0, none⟩) (zs.length + ts.length) (zs.length + ts.length)) (zs.length + ts.length) LL ∧ Part (zs ++ ts) (zs.length + k) LL) (fun i _ => ts.length - (intOf i).toNat)
              case atStart => exact ⟨0, Nat.zero_le _, rfl, hbr, _, hown, hpart⟩
              case round =>
                clear hown hbr hpart
                obtain ⟨k, hk, rfl, hbr, LL, hown, hpart⟩ := hrel
                by_cases hlt4 : k < ts.length
                · exfalso
                  have := HT0.out
                  omega
                · have hke : k = ts.length := by omega
                  subst hke
                  obtain ⟨w7, hw7⟩ : ∃ w7, w7 = wr := ⟨_, rfl⟩
                  subst hw7
                  have HJ : Hid (BAt w7 (some ⟨w5.heap.size, 0, none⟩) (zs ++ ts)) := bat_of_own hown hpart (by simp)
                  have HB7 : Hid (Below w.heap.size w w7) := HB5.out.trans (hbr.mono HB5.out.size)
                  have HCH7 : Hid (Chunk w7 g avg seed small large gs) := HCH5.out.kept hbr
                  have HR5 : Hid (BAt w7 (some ⟨w1.heap.size, 0, none⟩) zs) := HP5.out.kept hbr
                  clear hbr hown hpart HB5 HCH5 HP5 HP6
                  obtain ⟨r2, hr2⟩ : ∃ r2, (zs.length + ts.length ≤ M ∧ r2 = zs.length + ts.length) ∨ (M < zs.length + ts.length ∧ r2 = M) := by
                    by_cases hq : zs.length + ts.length ≤ M
                    · exact ⟨_, Or.inl ⟨hq, rfl⟩⟩
                    · exact ⟨_, Or.inr ⟨by omega, rfl⟩⟩
                  have hLr2 : L < r2 := by have := HR; unfold MinOf at this; omega
                  have HR2 : MinOf (zs.length + ts.length) M r2 := hr2
                  clear hr2
                  go_wp2_with fail
                  refine (cut_at g avg seed small large gs (some ⟨w5.heap.size, 0, none⟩) (zs ++ ts) (zs.length + ts.length) (zs.length + ts.length) M L r2 (L - L % 2) w7 HCH7.out hav (by omega) (by simp) (by omega) HM'.out HL'.out rfl HR2 hLr2 HJ.out (bytes_append HY5.out HY6.out)).mono ?_
                  rintro e w8 ⟨c2, rfl, hf2, hb8⟩
                  have hlong := cut_longer zs ts gs avg small large (L - L % 2) L M zs.length ts.length M r2 cc c2 rfl (by omega) HR hLR HR2 HF1.out hf2
                  have HB8 : Hid (Below w.heap.size w w8) := HB7.out.trans (hb8.mono HB7.out.size)
                  have HCH8 : Hid (Chunk w8 g avg seed small large gs) := HCH7.out.kept hb8
                  have HS5 : Hid (BAt w8 (some ⟨w1.heap.size, 0, none⟩) zs) := HR5.out.kept hb8
                  have hlg2 : cc ≤ c2 + 1 := hlong.2
                  have HLG : Hid ((cc < M ∨ M = M ∨ ts.length = 0) → c2 = cc) := hlong.1
                  clear hlong hf2 hb8 HB7 HCH7 HR5 HJ HR2 hLr2
                  by_cases hmm : (zs.length : Int) < (cc : Int) + 2
                  · have HMM : MinOf (cc + 2) zs.length (zs.length) := Or.inr ⟨by omega, rfl⟩
                    obtain ⟨r3, hr3⟩ : ∃ r3, (zs.length ≤ M ∧ r3 = zs.length) ∨ (M < zs.length ∧ r3 = M) := by
                      by_cases hq : zs.length ≤ M
                      · exact ⟨_, Or.inl ⟨hq, rfl⟩⟩
                      · exact ⟨_, Or.inr ⟨by omega, rfl⟩⟩
                    have HR3 : MinOf (zs.length) M r3 := hr3
                    have hLr3 : L < r3 := short_ok HF1.out HR hLR HMM hr3 (by omega)
                    clear hr3
                    have hne : ¬ zs.length = 0 := by omega
                    go_wp2_with fail
                    refine (cut_at g avg seed small large gs (some ⟨w1.heap.size, 0, none⟩) (zs.take (zs.length)) (zs.length) zs.length M L r3 (L - L % 2) w8 HCH8.out hav (by omega) (by rw [List.length_take]; omega) (by omega) HM'.out HL'.out rfl HR3 hLr3 (bat_take HS5.out) (bytes_take HY5.out)).mono ?_
                    rintro e w9 ⟨c3, rfl, hf3, hb9⟩
                    have hc3 : c3 = cc := cut_shorter zs gs avg small large (L - L % 2) L M zs.length M (zs.length) r3 cc c3 (by omega) HR hLR HMM HR3 HF1.out hf3
                    subst hc3
                    have HB9 : Hid (Below w.heap.size w w9) := HB8.out.trans (hb9.mono HB8.out.size)
                    clear hf3 hb9 HB8 HCH8 HS5 HMM HR3 hLr3 HF1 HR
                    have hcl : c2 = c3 := HLG.out (by simp)
                    subst hcl
                    clear HLG
                    by_cases hlt9 : (c2 : Int) < (M : Int)
                    · go_wp2
                      go_ret
                      exact ⟨rfl, HB9.out⟩
                    · go_wp2
                      go_ret
                      exact ⟨rfl, HB9.out⟩
                  · have HMM : MinOf (cc + 2) zs.length (cc + 2) := Or.inl ⟨by omega, rfl⟩
                    obtain ⟨r3, hr3⟩ : ∃ r3, (cc + 2 ≤ M ∧ r3 = cc + 2) ∨ (M < cc + 2 ∧ r3 = M) := by
                      by_cases hq : cc + 2 ≤ M
                      · exact ⟨_, Or.inl ⟨hq, rfl⟩⟩
                      · exact ⟨_, Or.inr ⟨by omega, rfl⟩⟩
                    have HR3 : MinOf (cc + 2) M r3 := hr3
                    have hLr3 : L < r3 := short_ok HF1.out HR hLR HMM hr3 (by omega)
                    clear hr3
                    have hne : ¬ zs.length = 0 := by omega
                    go_wp2_with fail
                    refine (cut_at g avg seed small large gs (some ⟨w1.heap.size, 0, none⟩) (zs.take (cc + 2)) (cc + 2) zs.length M L r3 (L - L % 2) w8 HCH8.out hav (by omega) (by rw [List.length_take]; omega) (by omega) HM'.out HL'.out rfl HR3 hLr3 (bat_take HS5.out) (bytes_take HY5.out)).mono ?_
                    rintro e w9 ⟨c3, rfl, hf3, hb9⟩
                    have hc3 : c3 = cc := cut_shorter zs gs avg small large (L - L % 2) L M zs.length M (cc + 2) r3 cc c3 (by omega) HR hLR HMM HR3 HF1.out hf3
                    subst hc3
                    have HB9 : Hid (Below w.heap.size w w9) := HB8.out.trans (hb9.mono HB8.out.size)
                    clear hf3 hb9 HB8 HCH8 HS5 HMM HR3 hLr3 HF1 HR
                    have hcl : c2 = c3 := HLG.out (by simp)
                    subst hcl
                    clear HLG
                    by_cases hlt9 : (c2 : Int) < (M : Int)
                    · go_wp2
                      go_ret
                      exact ⟨rfl, HB9.out⟩
                    · go_wp2
                      go_ret
                      exact ⟨rfl, HB9.out⟩
      · have htd : avg.tdiv 4 = avg / 4 := Int.tdiv_eq_ediv_of_nonneg (by omega)
        have HTD : Hid (avg.tdiv 4 = avg / 4) := htd
        clear htd
        by_cases hsm : (zs.length : Int) ≤ avg.tdiv 4
        · have hsm2 : (zs.length : Int) ≤ avg / 4 := by rw [← HTD.out]; exact hsm
          go_wp2_with fail
          refine (cut_small g avg seed small large gs (some ⟨w1.heap.size, 0, none⟩) zs.length zs.length (avg * 4) (avg.tdiv 4) zs.length w4 HCH.out (by omega) (by omega) (by omega) rfl rfl (Or.inl ⟨by omega, rfl⟩) hsm).mono ?_
          rintro e w5 ⟨rfl, hb5⟩
          have HB5 : Hid (Below w.heap.size w w5) := HB4.out.trans (hb5.mono (by omega))
          clear hb5
          go_wp2
          go_ret
          exact ⟨rfl, HB5.out⟩
        · have hav : 0 ≤ avg := by omega
          obtain ⟨M, hM⟩ : ∃ M : Nat, avg * 4 = (M : Int) := ⟨(avg * 4).toNat, by omega⟩
          obtain ⟨L, hL⟩ : ∃ L : Nat, avg / 4 = (L : Int) := ⟨(avg / 4).toNat, by omega⟩
          have hL' : avg.tdiv 4 = (L : Int) := by rw [HTD.out]; exact hL
          rw [hL'] at hsm
          rw [hM] at hMn
          have HR : MinOf zs.length M zs.length := Or.inl ⟨by omega, rfl⟩
          have hLR : L < zs.length := by omega
          have HM' : Hid (avg * 4 = (M : Int)) := hM
          have HL' : Hid (avg.tdiv 4 = (L : Int)) := hL'
          clear HTD
          go_wp2_with fail
          refine (cut_at g avg seed small large gs (some ⟨w1.heap.size, 0, none⟩) zs zs.length zs.length M L zs.length (L - L % 2) w4 HCH.out hav (by omega) rfl (by omega) HM'.out HL'.out rfl HR hLR HM5.out HY5.out).mono ?_
          rintro e w5 ⟨cc, rfl, hf, hb5⟩
          have hbd := first_bd hf (by omega)
          have hcc1 : L ≤ cc + 1 := by omega
          have hcc2 : cc ≤ zs.length := hbd.2
          clear hbd
          have HF1 : Hid (FirstHit (hit zs gs (L - L % 2) avg small large) (L - L % 2) zs.length cc) := hf
          have HB5 : Hid (Below w.heap.size w w5) := HB4.out.trans (hb5.mono hz04)
          have HCH5 : Hid (Chunk w5 g avg seed small large gs) := HCH.out.kept hb5
          have HP5 : Hid (BAt w5 (some ⟨w1.heap.size, 0, none⟩) zs) := HM5.out.kept hb5
          have HP6 : Hid (BAt w5 none ts) := HM6.out.kept hb5
          clear hf hb5 HB4 HCH HM5 HM6
          go_wp2_with (first | (at_make; refine wpList_make_full _ rfl _ _ 25 rfl w5.heap.size 5 i0 (.int .u8 0) 1 Try.underlying25 hi hz0 hz1 _ _ _ _ (zs.length + ts.length) rfl rfl (by omega) (by omega) ?mc1 ?mc2 ?mc3 ?_))
          case mc1 => rw [hz2]; omega
          case mc2 => unfold maxLen; omega
          case mc3 => exact Nat.le_refl _
          intro wmc hown hgr
          have hbm : Below w5.heap.size w5 wmc := (Below.refl _ _).grown hgr (Nat.le_refl _) (by simp)
          clear hgr
          go_wp2
          go_loopw [25] (fun i wr => ∃ k : Nat, k ≤ zs.length ∧ i = .int .i64 k ∧ Below w5.heap.size w5 wr ∧ ∃ LL, wr.ownsRow w5.heap.size 5 1 (.slice (some ⟨w5.heap.size, 0, none⟩) (zs.length + ts.length) (zs.length + ts.length)) (zs.length + ts.length) LL ∧ Part (zs ++ ts) k LL) (fun i _ => zs.length - (intOf i).toNat)
          case atStart => exact ⟨0, Nat.zero_le _, rfl, hbm, _, hown, fun i h => by omega⟩
          case round =>
            clear hown hbm
            obtain ⟨k, hk, rfl, hbr, LL, hown, hpart⟩ := hrel
            by_cases hlt : k < zs.length
            · obtain ⟨b, off, had, hblt, hc⟩ := HP5.out k hlt
              obtain ⟨y, hy⟩ : ∃ y, zs.getD k 0 = y := ⟨_, rfl⟩
              rw [hy] at hc
              have hy2 : (zs ++ ts).getD k 0 = y := by rw [← hy]; exact getD_left zs ts k hlt
              cases had
              have hcr : wr.cell? ⟨w1.heap.size, 0 + k, none⟩ = some (.int .u8 y) := (hbr.cell (p := ⟨w1.heap.size, 0 + k, none⟩) hblt).trans hc
              rw [Nat.zero_add] at hcr
              have hLk : k < LL.length := by have := hown.1; omega
              have hcd : wr.cell? ⟨w5.heap.size, k, none⟩ = some LL[k] := by rw [hown.cellAt k (by omega), List.getElem?_eq_getElem hLk]
              have hfd := hown.frozenAt k
              have HPA : Hid (Part (zs ++ ts) (k + 1) (LL.set k (.int .u8 y))) := hpart.step hy2 hLk
              have HOW : Hid ((wr.setCell ⟨w5.heap.size, k, none⟩ (.int .u8 y)).ownsRow w5.heap.size 5 1 (.slice (some ⟨w5.heap.size, 0, none⟩) (zs.length + ts.length) (zs.length + ts.length)) (zs.length + ts.length) (LL.set k (.int .u8 y))) := (hown.stored k (.int .u8 y)).1
              have HBR : Hid (Below w5.heap.size w5 (wr.setCell ⟨w5.heap.size, k, none⟩ (.int .u8 y))) := hbr.setCell (Nat.le_refl _) _
              have hkI : (k : Int) < (zs.length : Int) + (ts.length : Int) := by omega
              clear hc hpart hown hbr hy hy2 hblt
              go_wp2
              go_roundw
              case rel => exact ⟨k + 1, by omega, by go_num, HBR.out, _, HOW.out, HPA.out⟩
              case measure => simp [intOf]; omega
            · have hke : k = zs.length := by omega
              subst hke
              obtain ⟨w6, hw6⟩ : ∃ w6, w6 = wr := ⟨_, rfl⟩
              subst hw6
              go_wp2
              go_loopw [26] (fun i wr => ∃ k : Nat, k ≤ ts.length ∧ i = .int .i64 k ∧ Below w5.heap.size w5 wr ∧ ∃ LL, wr.ownsRow w5.heap.size 5 1 (.slice (some ⟨w5.heap.size, 0, none⟩) (zs.length + ts.length) (zs.length + ts.length)) (zs.length + ts.length) LL ∧ Part (zs ++ ts) (zs.length + k) LL) (fun i _ => ts.length - (intOf i).toNat)
              case atStart => exact ⟨0, Nat.zero_le _, rfl, hbr, _, hown, hpart⟩
              case round =>
                clear hown hbr hpart
                obtain ⟨k, hk, rfl, hbr, LL, hown, hpart⟩ := hrel
                by_cases hlt4 : k < ts.length
                · exfalso
                  have := HT0.out
                  omega
                · have hke : k = ts.length := by omega
                  subst hke
                  obtain ⟨w7, hw7⟩ : ∃ w7, w7 = wr := ⟨_, rfl⟩
                  subst hw7
                  have HJ : Hid (BAt w7 (some ⟨w5.heap.size, 0, none⟩) (zs ++ ts)) := bat_of_own hown hpart (by simp)
                  have HB7 : Hid (Below w.heap.size w w7) := HB5.out.trans (hbr.mono HB5.out.size)
                  have HCH7 : Hid (Chunk w7 g avg seed small large gs) := HCH5.out.kept hbr
                  have HR5 : Hid (BAt w7 (some ⟨w1.heap.size, 0, none⟩) zs) := HP5.out.kept hbr
                  clear hbr hown hpart HB5 HCH5 HP5 HP6
                  obtain ⟨r2, hr2⟩ : ∃ r2, (zs.length + ts.length ≤ M ∧ r2 = zs.length + ts.length) ∨ (M < zs.length + ts.length ∧ r2 = M) := by
                    by_cases hq : zs.length + ts.length ≤ M
                    · exact ⟨_, Or.inl ⟨hq, rfl⟩⟩
                    · exact ⟨_, Or.inr ⟨by omega, rfl⟩⟩
                  have hLr2 : L < r2 := by have := HR; unfold MinOf at this; omega
                  have HR2 : MinOf (zs.length + ts.length) M r2 := hr2
                  clear hr2
                  go_wp2_with fail
                  refine (cut_at g avg seed small large gs (some ⟨w5.heap.size, 0, none⟩) (zs ++ ts) (zs.length + ts.length) (zs.length + ts.length) M L r2 (L - L % 2) w7 HCH7.out hav (by omega) (by simp) (by omega) HM'.out HL'.out rfl HR2 hLr2 HJ.out (bytes_append HY5.out HY6.out)).mono ?_
                  rintro e w8 ⟨c2, rfl, hf2, hb8⟩
                  have hlong := cut_longer zs ts gs avg small large (L - L % 2) L M zs.length ts.length zs.length r2 cc c2 rfl (by omega) HR hLR HR2 HF1.out hf2
                  have HB8 : Hid (Below w.heap.size w w8) := HB7.out.trans (hb8.mono HB7.out.size)
                  have HCH8 : Hid (Chunk w8 g avg seed small large gs) := HCH7.out.kept hb8
                  have HS5 : Hid (BAt w8 (some ⟨w1.heap.size, 0, none⟩) zs) := HR5.out.kept hb8
                  have hlg2 : cc ≤ c2 + 1 := hlong.2
                  have HLG : Hid ((cc < zs.length ∨ zs.length = M ∨ ts.length = 0) → c2 = cc) := hlong.1
                  clear hlong hf2 hb8 HB7 HCH7 HR5 HJ HR2 hLr2
                  by_cases hmm : (zs.length : Int) < (cc : Int) + 2
                  · have HMM : MinOf (cc + 2) zs.length (zs.length) := Or.inr ⟨by omega, rfl⟩
                    obtain ⟨r3, hr3⟩ : ∃ r3, (zs.length ≤ M ∧ r3 = zs.length) ∨ (M < zs.length ∧ r3 = M) := by
                      by_cases hq : zs.length ≤ M
                      · exact ⟨_, Or.inl ⟨hq, rfl⟩⟩
                      · exact ⟨_, Or.inr ⟨by omega, rfl⟩⟩
                    have HR3 : MinOf (zs.length) M r3 := hr3
                    have hLr3 : L < r3 := short_ok HF1.out HR hLR HMM hr3 (by omega)
                    clear hr3
                    have hne : ¬ zs.length = 0 := by omega
                    go_wp2_with fail
                    refine (cut_at g avg seed small large gs (some ⟨w1.heap.size, 0, none⟩) (zs.take (zs.length)) (zs.length) zs.length M L r3 (L - L % 2) w8 HCH8.out hav (by omega) (by rw [List.length_take]; omega) (by omega) HM'.out HL'.out rfl HR3 hLr3 (bat_take HS5.out) (bytes_take HY5.out)).mono ?_
                    rintro e w9 ⟨c3, rfl, hf3, hb9⟩
                    have hc3 : c3 = cc := cut_shorter zs gs avg small large (L - L % 2) L M zs.length zs.length (zs.length) r3 cc c3 (by omega) HR hLR HMM HR3 HF1.out hf3
                    subst hc3
                    have HB9 : Hid (Below w.heap.size w w9) := HB8.out.trans (hb9.mono HB8.out.size)
                    clear hf3 hb9 HB8 HCH8 HS5 HMM HR3 hLr3 HF1 HR
                    by_cases hlt9 : (c3 : Int) < (zs.length : Int)
                    · have hcl : c2 = c3 := HLG.out (Or.inl (by omega))
                      subst hcl
                      clear HLG
                      go_wp2
                      go_ret
                      exact ⟨rfl, HB9.out⟩
                    · by_cases hnM : zs.length = M
                      · have hcl : c2 = c3 := HLG.out (Or.inr (Or.inl hnM))
                        subst hcl
                        have hnM' : ((zs.length : Int) == (M : Int)) = true := by rw [hnM]; simp
                        clear HLG hnM
                        go_wp2
                        go_ret
                        exact ⟨rfl, HB9.out⟩
                      · have hnM' : ((zs.length : Int) == (M : Int)) = false := beq_eq_false_iff_ne.2 (by omega)
                        by_cases ht9 : ts.length = 0
                        · have hcl : c2 = c3 := HLG.out (Or.inr (Or.inr ht9))
                          subst hcl
                          have ht9' : ((ts.length : Int) == 0) = true := by rw [ht9]; rfl
                          clear HLG ht9 hnM
                          go_wp2
                          go_ret
                          exact ⟨rfl, HB9.out⟩
                        · have ht9' : ((ts.length : Int) == 0) = false := beq_eq_false_iff_ne.2 (by omega)
                          have hge : (c3 : Int) - 1 ≤ (c2 : Int) := by omega
                          clear HLG ht9 hnM
                          go_wp2
                          go_ret
                          exact ⟨rfl, HB9.out⟩
                  · have HMM : MinOf (cc + 2) zs.length (cc + 2) := Or.inl ⟨by omega, rfl⟩
                    obtain ⟨r3, hr3⟩ : ∃ r3, (cc + 2 ≤ M ∧ r3 = cc + 2) ∨ (M < cc + 2 ∧ r3 = M) := by
                      by_cases hq : cc + 2 ≤ M
                      · exact ⟨_, Or.inl ⟨hq, rfl⟩⟩
                      · exact ⟨_, Or.inr ⟨by omega, rfl⟩⟩
                    have HR3 : MinOf (cc + 2) M r3 := hr3
                    have hLr3 : L < r3 := short_ok HF1.out HR hLR HMM hr3 (by omega)
                    clear hr3
                    have hne : ¬ zs.length = 0 := by omega
                    go_wp2_with fail
                    refine (cut_at g avg seed small large gs (some ⟨w1.heap.size, 0, none⟩) (zs.take (cc + 2)) (cc + 2) zs.length M L r3 (L - L % 2) w8 HCH8.out hav (by omega) (by rw [List.length_take]; omega) (by omega) HM'.out HL'.out rfl HR3 hLr3 (bat_take HS5.out) (bytes_take HY5.out)).mono ?_
                    rintro e w9 ⟨c3, rfl, hf3, hb9⟩
                    have hc3 : c3 = cc := cut_shorter zs gs avg small large (L - L % 2) L M zs.length zs.length (cc + 2) r3 cc c3 (by omega) HR hLR HMM HR3 HF1.out hf3
                    subst hc3
                    have HB9 : Hid (Below w.heap.size w w9) := HB8.out.trans (hb9.mono HB8.out.size)
                    clear hf3 hb9 HB8 HCH8 HS5 HMM HR3 hLr3 HF1 HR
                    have hlt9 : (c3 : Int) < (zs.length : Int) := by omega
                    have hcl : c2 = c3 := HLG.out (Or.inl (by omega))
                    subst hcl
                    clear HLG
                    go_wp2
                    go_ret
                    exact ⟨rfl, HB9.out⟩

end Go.Proofs.Qxb6605375a
