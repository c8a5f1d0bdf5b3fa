import Derived.Test.Qxb6605375aCf
namespace Go.Proofs.Qxb6605375a
open Go.RowKit

set_option maxRecDepth 100000 in
set_option maxHeartbeats 4000000 in
theorem law_nn (avg seed small large : Int) (gs : List Int) (hgs : gs.length = 256) (zs ts : List Int) (cap5 cap6 : Nat) (w : World)
    (h5 : BAt w none zs) (b5 : ∀ i, 0 ≤ zs.getD i 0 ∧ zs.getD i 0 ≤ 255) (h6 : BAt w none ts) (b6 : ∀ i, 0 ≤ ts.getD i 0 ∧ ts.getD i 0 ≤ 255) (hd0 : zs.length = 0) (ht0 : ts.length = 0) :
    Calls Try.prog 3 #[.int .i64 avg, .int .u32 seed, .agg (gearV gs), .int .u64 small, .int .u64 large, .slice none zs.length cap5, .slice none ts.length cap6] w fun e w' => e = .returned (.bool true) ∧ Below w.heap.size w w' := by
  have HD0 : Hid (zs.length = 0) := hd0
  clear hd0
  have HT0 : Hid (ts.length = 0) := ht0
  clear ht0
  obtain ⟨G, hGv⟩ : ∃ G, G = gearV gs := ⟨_, rfl⟩
  have HG : Hid (G = gearV gs) := hGv
  have hiG := info24 G (by rw [hGv]; exact gearV_size gs hgs)
  rw [← hGv]
  clear hGv
  have q25 : ∀ (w : World) (a : Option Addr) (n c n' c' : Nat), (binOp .neq 25 (.slice a n c) (.slice none n' c')).run Try.prog w = .ok (.bool (!a.isNone)) w := fun w a n c n' c' => run_neq_slice_nil_any w _ _ a n c n' c' Try.underlying25
  obtain ⟨i0, hi, hz0, hz1, hz2⟩ := info_parts info5
  have hg0 := heap_alloc_new w (.cells G 24)
  have H5' : Hid (BAt w none zs) := h5
  have H6' : Hid (BAt w none ts) := h6
  have HY5 : Hid (∀ i, 0 ≤ zs.getD i 0 ∧ zs.getD i 0 ≤ 255) := b5
  have HY6 : Hid (∀ i, 0 ≤ ts.getD i 0 ∧ ts.getD i 0 ≤ 255) := b6
  clear h5 h6 b5 b6
  go_enter Try.func3, Try.ntmps3
  go_wp2_with (refine wpList_load_row rfl 24 (.tmp 9) rfl w.heap.size rfl 24 G (0, 0) _ hg0 Try.underlying24 rfl hiG ?_)
  refine (bytes_any avg seed small large G none none zs.length ts.length cap5 cap6 _).mono ?_
  rintro e w1 ⟨b1, rfl, hb1⟩
  have hz01 : w.heap.size < w1.heap.size := by have := hb1.size; simp at this; omega
  have HB1 : Hid (Below w.heap.size w w1) := ((Below.refl _ _).alloc (Nat.le_refl _) _).trans (hb1.mono (by simp))
  have hg1 : w1.heap[w.heap.size]? = some (.cells G 24) := heap_kept hb1 (by simp) hg0
  have H5 : Hid (BAt w1 none zs) := H5'.out.kept HB1.out
  have H6 : Hid (BAt w1 none ts) := H6'.out.kept HB1.out
  clear hb1 hg0 H5' H6'
  cases b1
  · go_wp2
    go_ret
    exact ⟨rfl, HB1.out⟩
  by_cases c1 : (1048576 : Int) < (zs.length : Int)
  · go_wp2
    go_ret
    exact ⟨rfl, HB1.out⟩
  by_cases c2 : (1048576 : Int) < (ts.length : Int)
  · go_wp2
    go_ret
    exact ⟨rfl, HB1.out⟩
  by_cases c3 : (1048576 : Int) < (zs.length : Int) + (ts.length : Int)
  · go_wp2
    go_ret
    exact ⟨rfl, HB1.out⟩
  by_cases c4 : (268435456 : Int) < avg
  · go_wp2
    go_ret
    exact ⟨rfl, HB1.out⟩
  by_cases c5 : avg < -268435456
  · go_wp2
    go_ret
    exact ⟨rfl, HB1.out⟩
  have hz02 : w.heap.size < w1.heap.size := hz01
  have HB2 : Hid (Below w.heap.size w w1) := HB1.out
  have hg2 : w1.heap[w.heap.size]? = some (.cells G 24) := hg1
  have HQ5 : Hid (BAt w1 none zs) := H5.out
  have HQ6 : Hid (BAt w1 none ts) := H6.out
  have HB3 : Hid (Below w.heap.size w w1) := HB2.out
  have hg3 : w1.heap[w.heap.size]? = some (.cells G 24) := hg2
  have HN5 : Hid (BAt w1 none zs) := HQ5.out
  have HN6 : Hid (BAt w1 none ts) := HQ6.out
  go_wp2_with (refine wpList_load_row rfl 24 (.tmp 9) rfl w.heap.size rfl 24 G (0, 0) _ hg3 Try.underlying24 rfl hiG ?_)
  refine (new_is avg seed small large gs G HG.out hgs w1).mono ?_
  rintro e w4 ⟨g, rfl, hch, hb4⟩
  have hz04 : w.heap.size ≤ w4.heap.size := by have := hb4.size; have := HB3.out.size; omega
  have HB4 : Hid (Below w.heap.size w w4) := HB3.out.trans (hb4.mono HB3.out.size)
  have HCH : Hid (Chunk w4 g avg seed small large gs) := hch
  have HM5 : Hid (BAt w4 none zs) := HN5.out.kept hb4
  have HM6 : Hid (BAt w4 none ts) := HN6.out.kept hb4
  clear hb4 hch hg3 HN5 HN6
  by_cases hMn : avg * 4 < (zs.length : Int)
  · by_cases hsm : avg * 4 ≤ avg.tdiv 4
    · go_wp2_with fail
      refine (cut_small g avg seed small large gs none zs.length cap5 (avg * 4) (avg.tdiv 4) (avg * 4) w4 HCH.out (by omega) (by omega) (by omega) rfl rfl (Or.inr ⟨hMn, rfl⟩) hsm).mono ?_
      rintro e w5 ⟨rfl, hb5⟩
      have HB5 : Hid (Below w.heap.size w w5) := HB4.out.trans (hb5.mono (by omega))
      clear hb5
      go_wp2
      go_ret
      exact ⟨rfl, HB5.out⟩
    · exfalso
      have := HD0.out
      exact not_small_nil2 (by omega) hMn hsm
  · have htd : avg.tdiv 4 = avg / 4 := Int.tdiv_eq_ediv_of_nonneg (by omega)
    have HTD : Hid (avg.tdiv 4 = avg / 4) := htd
    clear htd
    by_cases hsm : (zs.length : Int) ≤ avg.tdiv 4
    · have hsm2 : (zs.length : Int) ≤ avg / 4 := by rw [← HTD.out]; exact hsm
      go_wp2_with fail
      refine (cut_small g avg seed small large gs none zs.length cap5 (avg * 4) (avg.tdiv 4) zs.length w4 HCH.out (by omega) (by omega) (by omega) rfl rfl (Or.inl ⟨by omega, rfl⟩) hsm).mono ?_
      rintro e w5 ⟨rfl, hb5⟩
      have HB5 : Hid (Below w.heap.size w w5) := HB4.out.trans (hb5.mono (by omega))
      clear hb5
      go_wp2
      go_ret
      exact ⟨rfl, HB5.out⟩
    · exfalso
      have := HD0.out
      exact not_small_nil1 (by omega) hMn hsm

end Go.Proofs.Qxb6605375a
