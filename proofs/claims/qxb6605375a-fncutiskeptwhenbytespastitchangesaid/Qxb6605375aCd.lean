import Derived.Test.Qxb6605375aCc
import Derived.Deep.QuietTactic
import Derived.BigQuiet
namespace Go.Proofs.Qxb6605375a
open Go.RowKit

/-- MaxSize, MinSize at values of one's own names -/
theorem max_is (avg seed M : Int) (w : World) (h1 : -268435456 ≤ avg) (h2 : avg ≤ 268435456) (hM : avg * 4 = M) :
    Calls Try.prog 7 #[.agg #[.int .i64 avg, .int .u32 seed]] w fun e w' => e = .returned (.int .i64 M) ∧ Below w.heap.size w w' := by
  rw [← hM]; exact max_any avg seed w h1 h2
theorem min_is (avg seed L : Int) (w : World) (h1 : -268435456 ≤ avg) (h2 : avg ≤ 268435456) (hL : avg.tdiv 4 = L) :
    Calls Try.prog 8 #[.agg #[.int .i64 avg, .int .u32 seed]] w fun e w' => e = .returned (.int .i64 L) ∧ Below w.heap.size w w' := by
  rw [← hL]; exact min_any avg seed w h1 h2

/-- Cut where nothing is scanned -/
theorem cut_small (g : Nat) (avg seed small large : Int) (gs : List Int) (a : Option Addr) (n cap : Nat) (M L r : Int) (w : World) (hch : Chunk w g avg seed small large gs) (h1 : -268435456 ≤ avg) (h2 : avg ≤ 268435456) (_hn : n ≤ 4194304)
    (hM : avg * 4 = M) (hL : avg.tdiv 4 = L) (hr : ((n : Int) ≤ M ∧ r = n) ∨ (M < (n : Int) ∧ r = M)) (hrl : r ≤ L) :
    Calls Try.prog 6 #[.pointer (some ⟨g, 0, none⟩), .slice a n cap] w fun e w' => e = .returned (.int .i64 r) ∧ Below w.heap.size w w' := by
  have hc0 := hch.c0
  have hc1 := hch.c1
  have hlt := hch.lt
  clear hch
  rcases hr with ⟨hm, rfl⟩ | ⟨hm, rfl⟩
  · go_enter Try.func6, Try.ntmps6
    go_wp2_with fail
    refine (max_is avg seed M w h1 h2 hM).mono ?_
    clear hM
    rintro e w1 ⟨rfl, hb1⟩
    have hc0' : w1.cell? ⟨g, 0, none⟩ = some (.int .i64 avg) := (hb1.cell (p := ⟨g, 0, none⟩) hlt).trans hc0
    have hc1' : w1.cell? ⟨g, 1, none⟩ = some (.int .u32 seed) := (hb1.cell (p := ⟨g, 1, none⟩) hlt).trans hc1
    go_wp2_with fail
    refine (min_is avg seed L w1 h1 h2 hL).mono ?_
    clear hL
    rintro e w2 ⟨rfl, hb2⟩
    have HB : Hid (Below w.heap.size w w2) := hb1.trans (hb2.mono hb1.size)
    clear hb1 hb2
    go_wp2
    go_ret
    exact ⟨rfl, HB.out⟩
  · go_enter Try.func6, Try.ntmps6
    go_wp2_with fail
    refine (max_is avg seed r w h1 h2 hM).mono ?_
    clear hM
    rintro e w1 ⟨rfl, hb1⟩
    have hc0' : w1.cell? ⟨g, 0, none⟩ = some (.int .i64 avg) := (hb1.cell (p := ⟨g, 0, none⟩) hlt).trans hc0
    have hc1' : w1.cell? ⟨g, 1, none⟩ = some (.int .u32 seed) := (hb1.cell (p := ⟨g, 1, none⟩) hlt).trans hc1
    go_wp2_with fail
    refine (min_is avg seed L w1 h1 h2 hL).mono ?_
    clear hL
    rintro e w2 ⟨rfl, hb2⟩
    have HB : Hid (Below w.heap.size w w2) := hb1.trans (hb2.mono hb1.size)
    clear hb1 hb2
    go_wp2
    go_ret
    exact ⟨rfl, HB.out⟩

theorem and_even64 (x : Nat) (hx : x < 18446744073709551616) : x &&& 18446744073709551614 = x - x % 2 := by
  refine Nat.eq_of_testBit_eq fun i => ?_
  rw [Nat.testBit_and]
  cases i with
  | zero =>
    have e : (x - x % 2).testBit 0 = false := by rw [Nat.testBit_zero]; simp; omega
    rw [e, show Nat.testBit 18446744073709551614 0 = false by decide, Bool.and_false]
  | succ i =>
    have e : (x - x % 2).testBit (i + 1) = x.testBit (i + 1) := by rw [Nat.testBit_succ, Nat.testBit_succ, show (x - x % 2) / 2 = x / 2 by omega]
    rw [e, Nat.testBit_succ 18446744073709551614, show 18446744073709551614 / 2 = 2 ^ 63 - 1 by decide, Nat.testBit_two_pow_sub_one]
    by_cases hi : i < 63
    · simp [hi]
    · have hz : x.testBit (i + 1) = false := Nat.testBit_lt_two_pow (Nat.lt_of_lt_of_le hx (by
        have : 2 ^ 64 ≤ 2 ^ (i + 1) := Nat.pow_le_pow_right (by omega) (by omega)
        simpa using this))
      rw [hz, Bool.false_and]
theorem i64_andNot1 (x : Nat) (hx : x ≤ 268435456) : bits .andNot .i64 (x : Int) 1 = ((x - x % 2 : Nat) : Int) := by
  show IntKind.i64.wrap ((BitVec.ofInt 64 (x : Int) &&& ~~~BitVec.ofInt 64 1).toNat : Int) = _
  have h1 : (BitVec.ofInt 64 1).toNat = 1 := by decide
  rw [BitVec.toNat_and, BitVec.toNat_not, ofInt_u64 x (by omega), h1, show 2 ^ 64 - 1 - 1 = 18446744073709551614 by decide, and_even64 x (by omega), IntKind.wrap_i64]
  omega

/-! ### what the scan does, in plain words -/
/-- the hash's step -/
def stepH (h G : Int) : Int := IntKind.u64.wrap (IntKind.u64.wrap (h * 2) + G)
/-- the hash behind k bytes from E on -/
def hsh (zs gs : List Int) (E : Nat) : Nat → Int
  | 0 => 0
  | k + 1 => stepH (hsh zs gs E k) (gs.getD (zs.getD (E + k) 0).toNat 0)
/-- the mask at position i -/
def maskAt (avg small large : Int) (i : Nat) : Int := if ((i - i % 2 : Nat) : Int) < avg then small else large
/-- the hash meets its mask at position i -/
def hit (zs gs : List Int) (E : Nat) (avg small large : Int) (i : Nat) : Bool := bits .and .u64 (hsh zs gs E (i - E + 1)) (maskAt avg small large i) == 0
/-- c is the first position from E on, below the last whole pair's end, that meets its mask; or r where there is none -/
def FirstHit (ht : Nat → Bool) (E r c : Nat) : Prop :=
  (E ≤ c ∧ c < 2 * (r / 2) ∧ ht c = true ∧ ∀ j, E ≤ j → j < c → ht j = false) ∨ (c = r ∧ ∀ j, E ≤ j → j < 2 * (r / 2) → ht j = false)
/-- what Cut hands back -/
def CutTo (ht : Nat → Bool) (E r : Nat) (w : World) (e : Ending) (w' : World) : Prop := ∃ c : Nat, e = .returned (.int .i64 c) ∧ FirstHit ht E r c ∧ Below w.heap.size w w'

theorem hit_even {zs gs : List Int} {E q k : Nat} {avg small large m h G x : Int} {u : Nat} (hE : E % 2 = 0) (hk : k = E + 2 * q) (hh : h = hsh zs gs E (2 * q)) (hu : zs.getD k 0 = (u : Int)) (hG : gs.getD u 0 = G)
    (hx : IntKind.u64.wrap (IntKind.u64.wrap (h * 2) + G) = x) (hm : maskAt avg small large k = m) : hit zs gs E avg small large k = (bits .and .u64 x m == 0) ∧ x = hsh zs gs E (2 * q + 1) := by
  have e : hsh zs gs E (2 * q + 1) = x := by
    rw [hsh, ← hh, ← hk, hu, Int.toNat_natCast, hG]; exact hx
  refine ⟨?_, e.symm⟩
  unfold hit
  rw [hm, show k - E + 1 = 2 * q + 1 by omega, e]
theorem hit_odd {zs gs : List Int} {E q k : Nat} {avg small large m h G x : Int} {v : Nat} (hE : E % 2 = 0) (hk : k = E + 2 * q) (hh : h = hsh zs gs E (2 * q + 1)) (hv : zs.getD (k + 1) 0 = (v : Int)) (hG : gs.getD v 0 = G)
    (hx : IntKind.u64.wrap (IntKind.u64.wrap (h * 2) + G) = x) (hm : maskAt avg small large k = m) : hit zs gs E avg small large (k + 1) = (bits .and .u64 x m == 0) ∧ x = hsh zs gs E (2 * (q + 1)) := by
  have e : hsh zs gs E (2 * (q + 1)) = x := by
    show hsh zs gs E (2 * q + 1 + 1) = x
    rw [hsh, ← hh, show E + (2 * q + 1) = k + 1 by omega, hv, Int.toNat_natCast, hG]; exact hx
  refine ⟨?_, e.symm⟩
  have hm' : maskAt avg small large (k + 1) = m := by
    rw [← hm]; unfold maskAt
    rw [show k + 1 - (k + 1) % 2 = k - k % 2 by omega]
  unfold hit
  rw [hm', show k + 1 - E + 1 = 2 * (q + 1) by omega, e]

theorem first_now {ht : Nat → Bool} {E r k : Nat} (h1 : E ≤ k) (h2 : k < 2 * (r / 2)) (h3 : ht k = true) (h4 : ∀ j, E ≤ j → j < k → ht j = false) : FirstHit ht E r k := Or.inl ⟨h1, h2, h3, h4⟩
theorem more_no {ht : Nat → Bool} {E k : Nat} (h4 : ∀ j, E ≤ j → j < k → ht j = false) (h3 : ht k = false) : ∀ j, E ≤ j → j < k + 1 → ht j = false := fun j hj1 hj2 => by
  by_cases e : j = k
  · rw [e]; exact h3
  · exact h4 j hj1 (by omega)

theorem below_draws_on {B : Nat} {w w' : World} (h : Below B w w') (n : Nat) : Below B w (w'.drewN n) := ⟨h.os, h.tape, h.output, h.size, h.block⟩

set_option maxHeartbeats 8000000 in
theorem cut_loop (g : Nat) (avg seed small large : Int) (gs : List Int) (b off : Nat) (zs : List Int) (n cap : Nat) (M L r E : Nat) (w : World) (hch : Chunk w g avg seed small large gs) (h1 : 0 ≤ avg) (h2 : avg ≤ 268435456) (hn : n ≤ 4194304)
    (hM : avg * 4 = (M : Int)) (hL : avg.tdiv 4 = (L : Int)) (hr : (n ≤ M ∧ r = n) ∨ (M < n ∧ r = M)) (hrl : L < r) (_hL2 : L ≤ 268435456) (_hM2 : M ≤ 4294967296) (hE : bits .andNot .i64 (L : Int) 1 = (E : Int)) (hEL : E ≤ L) (hE0 : E % 2 = 0)
    (hd : ∀ i, i < n → w.cell? ⟨b, off + i, none⟩ = some (.int .u8 (zs.getD i 0))) (hby : ∀ i, 0 ≤ zs.getD i 0 ∧ zs.getD i 0 ≤ 255) (hbl : b < w.heap.size) :
    Calls Try.prog 6 #[.pointer (some ⟨g, 0, none⟩), .slice (some ⟨b, off, none⟩) n cap] w (CutTo (hit zs gs E avg small large) E r w) := by
  have hc0 := hch.c0
  have hc1 := hch.c1
  have hlt := hch.lt
  have HCH : Hid (Chunk w g avg seed small large gs) := hch
  have HD : Hid (∀ i, i < n → w.cell? ⟨b, off + i, none⟩ = some (.int .u8 (zs.getD i 0))) := hd
  have HBY : Hid (∀ i, 0 ≤ zs.getD i 0 ∧ zs.getD i 0 ≤ 255) := hby
  clear hch hd hby
  rcases hr with ⟨hm, rfl⟩ | ⟨hm, rfl⟩
  all_goals
    have hdl : decide (r ≤ L) = false := decide_eq_false (by omega)
    have hdl' : decide ((r : Int) ≤ (L : Int)) = false := decide_eq_false (by omega)
    go_enter Try.func6, Try.ntmps6
    go_wp2_with fail
    refine (max_is avg seed _ w (by omega) h2 hM).mono ?_
    clear hM
    rintro e w1 ⟨rfl, hb1⟩
    have hc0' : w1.cell? ⟨g, 0, none⟩ = some (.int .i64 avg) := (hb1.cell (p := ⟨g, 0, none⟩) hlt).trans hc0
    have hc1' : w1.cell? ⟨g, 1, none⟩ = some (.int .u32 seed) := (hb1.cell (p := ⟨g, 1, none⟩) hlt).trans hc1
    go_wp2_with fail
    refine (min_is avg seed L w1 (by omega) h2 hL).mono ?_
    clear hL
    rintro e w2 ⟨rfl, hb2⟩
    have hlt1 : g < w1.heap.size := Nat.lt_of_lt_of_le hlt hb1.size
    have hc0'' : w2.cell? ⟨g, 0, none⟩ = some (.int .i64 avg) := (hb2.cell (p := ⟨g, 0, none⟩) hlt1).trans hc0'
    have HB : Hid (Below w.heap.size w w2) := hb1.trans (hb2.mono hb1.size)
    have HCH2 : Hid (Chunk w2 g avg seed small large gs) := (HCH.out.kept hb1).kept hb2
    have HD2 : Hid (∀ i, i < r → w2.cell? ⟨b, off + i, none⟩ = some (.int .u8 (zs.getD i 0))) := fun i hi => (HB.out.cell (p := ⟨b, off + i, none⟩) hbl).trans (HD.out i (by omega))
    clear hb1 hb2 hc0' hc1' hc0 hc1 HCH HD
    go_wp2
    go_loopw [8, 9] (fun hh i wr => ∃ (q k : Nat) (h : Int), i = .int .i64 k ∧ hh = .int .u64 h ∧ k = E + 2 * q ∧ h = hsh zs gs E (2 * q) ∧ k ≤ r ∧ (∀ j, E ≤ j → j < k → hit zs gs E avg small large j = false) ∧ ∃ d, wr = w2.drewN d) (fun _ i _ => r - (intOf i).toNat)
    case atStart => exact ⟨0, E, 0, rfl, rfl, rfl, rfl, by omega, fun j hj1 hj2 => by omega, 0, rfl⟩
    case round =>
      obtain ⟨q, k, h, rfl, rfl, hk, hh, hk2, hno, d, rfl⟩ := hrel
      have HK : Hid (k = E + 2 * q) := hk
      have HH : Hid (h = hsh zs gs E (2 * q)) := hh
      have HNO : Hid (∀ j, E ≤ j → j < k → hit zs gs E avg small large j = false) := hno
      have hkE : E ≤ k := by omega
      have hk0' : k % 2 = 0 := by omega
      clear hk hh hno
      by_cases hlt2 : k + 1 < r
      · obtain ⟨u, hu⟩ : ∃ u : Nat, zs.getD k 0 = (u : Int) := ⟨(zs.getD k 0).toNat, by have := HBY.out k; omega⟩
        obtain ⟨v, hv⟩ : ∃ v : Nat, zs.getD (k + 1) 0 = (v : Int) := ⟨(zs.getD (k + 1) 0).toNat, by have := HBY.out (k + 1); omega⟩
        have hu2 : u < 256 := by have := HBY.out k; omega
        have hv2 : v < 256 := by have := HBY.out (k + 1); omega
        have hcu := HD2.out k (by omega)
        have hcv := HD2.out (k + 1) (by omega)
        rw [hu] at hcu
        rw [hv] at hcv
        obtain ⟨G1, hG1⟩ : ∃ G, gs.getD u 0 = G := ⟨_, rfl⟩
        obtain ⟨G2, hG2⟩ : ∃ G, gs.getD v 0 = G := ⟨_, rfl⟩
        have hgu := HCH2.out.cg u hu2
        have hgv := HCH2.out.cg v hv2
        rw [hG1] at hgu
        rw [hG2] at hgv
        have hcs := HCH2.out.cs
        have hcl := HCH2.out.cl
        have hki : (k : Int) + 1 < (r : Int) := by omega
        have hk0 : (k : Int) < (r : Int) := by omega
        have HU : Hid (zs.getD k 0 = (u : Int)) := hu
        have HV : Hid (zs.getD (k + 1) 0 = (v : Int)) := hv
        have HG1 : Hid (gs.getD u 0 = G1) := hG1
        have HG2 : Hid (gs.getD v 0 = G2) := hG2
        clear hu hv hG1 hG2
        obtain ⟨x1, hx1⟩ : ∃ x, IntKind.u64.wrap (IntKind.u64.wrap (h * 2) + G1) = x := ⟨_, rfl⟩
        obtain ⟨x2, hx2⟩ : ∃ x, IntKind.u64.wrap (IntKind.u64.wrap (x1 * 2) + G2) = x := ⟨_, rfl⟩
        by_cases hav : (k : Int) < avg
        · have HM : Hid (maskAt avg small large k = small) := by
            show _ = _
            unfold maskAt
            rw [show k - k % 2 = k by omega, if_pos hav]
          cases t1 : (bits .and .u64 x1 small == 0)
          · have HN1 : Hid (∀ j, E ≤ j → j < k + 1 → hit zs gs E avg small large j = false) := more_no HNO.out (by rw [(hit_even hE0 HK.out HH.out HU.out HG1.out hx1 HM.out).1]; exact t1)
            have HX1 : Hid (x1 = hsh zs gs E (2 * q + 1)) := (hit_even hE0 HK.out HH.out HU.out HG1.out hx1 HM.out).2
            cases t2 : (bits .and .u64 x2 small == 0)
            · have HN2 : Hid (∀ j, E ≤ j → j < k + 1 + 1 → hit zs gs E avg small large j = false) := more_no HN1.out (by rw [(hit_odd hE0 HK.out HX1.out HV.out HG2.out hx2 HM.out).1]; exact t2)
              have HX2 : Hid (x2 = hsh zs gs E (2 * (q + 1))) := (hit_odd hE0 HK.out HX1.out HV.out HG2.out hx2 HM.out).2
              go_wp2
              go_quiet (fail)
              go_wp2
              go_quiet (fail)
              go_wp2
              go_roundw
              case rel => first | exact ⟨q + 1, k + 2, x2, by go_num, rfl, by have := HK.out; omega, HX2.out, by omega, HN2.out, _, rfl⟩ | ((repeat apply Exists.intro); exact ⟨⟨q + 1, k + 2, x2, by go_num, rfl, by have := HK.out; omega, HX2.out, by omega, HN2.out, _, rfl⟩, rfl⟩)
              case measure => simp [intOf]; omega
            · have HF : Hid (FirstHit (hit zs gs E avg small large) E r (k + 1)) := first_now (by omega) (by omega) (by rw [(hit_odd hE0 HK.out HX1.out HV.out HG2.out hx2 HM.out).1]; exact t2) HN1.out
              go_wp2
              go_quiet (fail)
              go_wp2
              go_quiet (fail)
              go_wp2
              go_ret
              exact ⟨k + 1, rfl, HF.out, below_draws_on HB.out _⟩
          · have HF : Hid (FirstHit (hit zs gs E avg small large) E r k) := first_now (by omega) (by omega) (by rw [(hit_even hE0 HK.out HH.out HU.out HG1.out hx1 HM.out).1]; exact t1) HNO.out
            go_wp2
            go_quiet (fail)
            go_wp2
            go_ret
            exact ⟨k, rfl, HF.out, below_draws_on HB.out _⟩
        · have HM : Hid (maskAt avg small large k = large) := by
            show _ = _
            unfold maskAt
            rw [show k - k % 2 = k by omega, if_neg hav]
          cases t1 : (bits .and .u64 x1 large == 0)
          · have HN1 : Hid (∀ j, E ≤ j → j < k + 1 → hit zs gs E avg small large j = false) := more_no HNO.out (by rw [(hit_even hE0 HK.out HH.out HU.out HG1.out hx1 HM.out).1]; exact t1)
            have HX1 : Hid (x1 = hsh zs gs E (2 * q + 1)) := (hit_even hE0 HK.out HH.out HU.out HG1.out hx1 HM.out).2
            cases t2 : (bits .and .u64 x2 large == 0)
            · have HN2 : Hid (∀ j, E ≤ j → j < k + 1 + 1 → hit zs gs E avg small large j = false) := more_no HN1.out (by rw [(hit_odd hE0 HK.out HX1.out HV.out HG2.out hx2 HM.out).1]; exact t2)
              have HX2 : Hid (x2 = hsh zs gs E (2 * (q + 1))) := (hit_odd hE0 HK.out HX1.out HV.out HG2.out hx2 HM.out).2
              go_wp2
              go_quiet (fail)
              go_wp2
              go_quiet (fail)
              go_wp2
              go_roundw
              case rel => first | exact ⟨q + 1, k + 2, x2, by go_num, rfl, by have := HK.out; omega, HX2.out, by omega, HN2.out, _, rfl⟩ | ((repeat apply Exists.intro); exact ⟨⟨q + 1, k + 2, x2, by go_num, rfl, by have := HK.out; omega, HX2.out, by omega, HN2.out, _, rfl⟩, rfl⟩)
              case measure => simp [intOf]; omega
            · have HF : Hid (FirstHit (hit zs gs E avg small large) E r (k + 1)) := first_now (by omega) (by omega) (by rw [(hit_odd hE0 HK.out HX1.out HV.out HG2.out hx2 HM.out).1]; exact t2) HN1.out
              go_wp2
              go_quiet (fail)
              go_wp2
              go_quiet (fail)
              go_wp2
              go_ret
              exact ⟨k + 1, rfl, HF.out, below_draws_on HB.out _⟩
          · have HF : Hid (FirstHit (hit zs gs E avg small large) E r k) := first_now (by omega) (by omega) (by rw [(hit_even hE0 HK.out HH.out HU.out HG1.out hx1 HM.out).1]; exact t1) HNO.out
            go_wp2
            go_quiet (fail)
            go_wp2
            go_ret
            exact ⟨k, rfl, HF.out, below_draws_on HB.out _⟩
      · have HF : Hid (FirstHit (hit zs gs E avg small large) E r r) := Or.inr ⟨rfl, fun j hj1 hj2 => HNO.out j hj1 (by omega)⟩
        go_wp2
        go_ret
        exact ⟨r, rfl, HF.out, below_draws_on HB.out _⟩

end Go.Proofs.Qxb6605375a
