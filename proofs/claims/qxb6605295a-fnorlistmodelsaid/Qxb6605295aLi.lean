import Derived.Test.Qxb6605295aLb
import Derived.Test.Qxb6605295aLh
namespace Go.Proofs.Qxb6605295a
open Go.RowKit

/-- the two sums that the first loop reckons, behind k rounds -/
def sumK (xs : List ByteArray) (k : Nat) : Int := (tot (xs.take k) : Int)
def totM (xs : List ByteArray) (k : Nat) : Int := 16 * (k : Int) + (tot (xs.take k) : Int)
theorem totM_succ (xs : List ByteArray) (k : Nat) (y : ByteArray) (h : xs[k]? = some y) : totM xs (k + 1) = totM xs k + (16 + (y.size : Int)) := by
  unfold totM
  rw [tot_take_succ xs k y h]
  omega
theorem sumK_succ (xs : List ByteArray) (k : Nat) (y : ByteArray) (h : xs[k]? = some y) : sumK xs (k + 1) = sumK xs k + (y.size : Int) := by
  unfold sumK
  rw [tot_take_succ xs k y h]
  omega
theorem sumK_le (xs : List ByteArray) (k : Nat) : 0 ≤ sumK xs k ∧ sumK xs k ≤ totM xs k := by unfold sumK totM; omega
theorem sumK_all (xs : List ByteArray) : sumK xs xs.length = (tot xs : Int) := by unfold sumK; rw [List.take_length]
theorem size_of_all {xs : List ByteArray} {k : Nat} {y : ByteArray} (h : ∀ z ∈ xs, z.size ≤ 1048576) (hy : xs[k]? = some y) : y.size ≤ 1048576 := h y (List.mem_of_getElem? hy)

theorem below_draws_on {B : Nat} {w w' : World} (h : Below B w w') (n : Nat) : Below B w (w'.drewN n) := ⟨h.os, h.tape, h.output, h.size, h.block⟩

/-- hasAt's contract at a position that is spelt as an integer -/
theorem hasAt_at (s t : ByteArray) (p : Nat) (q : Int) (w : World) (hq : q = (p : Int)) (hs : s.size ≤ 4294967296) (h : StandsAt s p t) :
    Calls Try.prog 13 #[.string s, .int .i64 q, .string t] w fun e w' => e = .returned (.bool true) ∧ ∃ n, w' = w.drewN n := by
  subst hq
  exact hasAt_yes s t p w hs h

set_option maxHeartbeats 4000000 in
theorem model_walk (a : Option Addr) (xs : List ByteArray) (cap : Nat) (w : World) (hs : SAt w a xs) (hnil : a = none → xs = []) (hcap : xs.length ≤ cap) :
    Calls Try.prog 4 #[.slice a xs.length cap] w fun e w' => e = .returned (.bool true) ∧ Below w.heap.size w w' := by
  go_enter Try.func4, Try.ntmps4
  go_wp2_with fail
  refine (bytesModel_any a xs cap w hs).mono ?_
  rintro e w1 ⟨b1, rfl, rfl, hg⟩
  cases b1
  · clear hg
    go_wp2
    go_ret
    exact ⟨rfl, Below.refl _ _⟩
  have HG : Hid (∀ y ∈ xs, y.size ≤ 1048576) := hg rfl
  clear hg
  by_cases hl : (65536 : Int) < (xs.length : Int)
  · go_wp2
    go_ret
    exact ⟨rfl, Below.refl _ _⟩
  go_wp2
  go_loop [3, 4, 5] (fun n m i => ∃ k : Nat, k ≤ xs.length ∧ i = .int .i64 k ∧ n = .int .i64 (totM xs k) ∧ m = .int .i64 (sumK xs k) ∧ totM xs k ≤ 1048576) (fun _ _ i => xs.length - (intOf i).toNat)
  case atStart => exact ⟨0, Nat.zero_le _, rfl, by simp [totM, tot], by simp [sumK, tot], by simp [totM, tot]⟩
  case round =>
    obtain ⟨k, hk, rfl, rfl, rfl, hT⟩ := hrel
    have hT0 := sumK_le xs k
    by_cases hlt : k < xs.length
    · obtain ⟨y, hy⟩ : ∃ y, xs[k]? = some y := ⟨_, List.getElem?_eq_getElem hlt⟩
      have hyl := size_of_all HG.out hy
      have HT : Hid (totM xs (k + 1) = totM xs k + (16 + (y.size : Int))) := totM_succ xs k y hy
      have HS : Hid (sumK xs (k + 1) = sumK xs k + (y.size : Int)) := sumK_succ xs k y hy
      obtain ⟨b, off, rfl, hblt, hc⟩ := hs k y hy
      by_cases hyt : (1048576 : Int) < totM xs k + (16 + (y.size : Int))
      · clear hy hs hnil
        go_wp2
        go_ret
        exact ⟨rfl, Below.refl _ _⟩
      · clear hy hs hnil
        go_wp2
        go_round
        case rel => exact ⟨k + 1, by omega, by go_num, by rw [HT.out], by rw [HS.out], by rw [HT.out]; omega⟩
        case measure => simp [intOf]; omega
    · have hke : k = xs.length := by omega
      subst hke
      by_cases h0 : xs.length = 0
      · have h0' : ((xs.length : Int) == 0) = true := by rw [h0]; rfl
        clear hs hnil h0
        go_wp2
        go_ret
        exact ⟨rfl, Below.refl _ _⟩
      have h0' : ((xs.length : Int) == 0) = false := beq_eq_false_iff_ne.2 (by omega)
      have hl1 : 1 ≤ xs.length := by omega
      have hsum := sumK_all xs
      have htot : tot xs ≤ 1048576 := by omega
      have HSUM : Hid (sumK xs xs.length = (tot xs : Int)) := hsum
      clear h0 hsum
      go_wp2_with fail
      refine (clone_any a xs cap w1 hs (by omega) hnil hcap).mono ?_
      rintro e w2 ⟨a', cap', rfl, hc', hs', hb2⟩
      clear hs hnil
      go_wp2_with fail
      refine (zzOrList_any a' xs cap' w2 hs' hl1 (by omega) hc' (by omega)).mono ?_
      rintro e w3 ⟨rfl, hb3⟩
      have hs3 : SAt w3 a' xs := hs'.kept hb3
      have HB3 : Hid (Below w1.heap.size w1 w3) := hb2.trans (hb3.mono hb2.size)
      have hob : (orB xs).size ≤ 100000000 := by have := orB_size_le xs hl1; omega
      clear hs' hb3 hb2
      obtain ⟨b, off, rfl, hblt, hc⟩ := hs3.addr hl1
      clear hs3
      have HC : Hid (∀ (i : Nat) y, xs[i]? = some y → w3.cell? ⟨b, off + i, none⟩ = some (.string y)) := hc
      clear hc
      by_cases h2 : (2 : Int) ≤ (xs.length : Int)
      · have hE : (((orB xs).size : Int) != sumK xs xs.length + 2 * ((xs.length : Int) - 2) + 4) = false := by
          rw [HSUM.out, orB_size_more xs (by omega)]; simp
        clear HSUM
        go_wp2
        go_loopw [9, 10] (fun p i wr => ∃ m : Nat, m ≤ xs.length ∧ i = .int .i64 m ∧ p = .int .i64 (posK xs.length xs m : Nat) ∧ ∃ d, wr = w3.drewN d) (fun _ i _ => xs.length - (intOf i).toNat)
        case atStart => exact ⟨0, Nat.zero_le _, rfl, rfl, 0, rfl⟩
        case round =>
          obtain ⟨m, hm, rfl, rfl, d, rfl⟩ := hrel
          have hpm := posK_le xs m hl1 hm
          by_cases hlt2 : m < xs.length
          · obtain ⟨y, hy⟩ : ∃ y, xs[m]? = some y := ⟨_, List.getElem?_eq_getElem hlt2⟩
            have hcy := HC.out m y hy
            have hyl := size_of_all HG.out hy
            have HI : Hid (StandsAt (orB xs) (posK xs.length xs m + (sepL xs.length m).length) y) := item_stands xs m y hy
            have HP : Hid (posK xs.length xs (m + 1) = posK xs.length xs m + (sepL xs.length m).length + y.size) := posK_succ xs m y hy
            by_cases hm0 : m = 0
            · have hm0' : ¬ ((0 : Int) < (m : Int)) := by omega
              have hsl : (sepL xs.length m).length = 0 := by rw [hm0]; rfl
              have HPI : Hid (((posK xs.length xs (m + 1) : Nat) : Int) = (posK xs.length xs m : Int) + (y.size : Int)) := by
                show _ = _
                rw [HP.out, hsl]; push_cast; omega
              have HJ : Hid (StandsAt (orB xs) (posK xs.length xs m) y) := by have := HI.out; rwa [hsl] at this
              clear HI HP hsl hy hm0
              go_wp2_with fail
              refine (hasAt_at (orB xs) y (posK xs.length xs m) _ _ rfl (by omega) HJ.out).mono ?_
              rintro e w6 ⟨rfl, d2, rfl⟩
              go_wp2
              go_roundw
              case rel => exact ⟨m + 1, by omega, by go_num, by rw [HPI.out], _, rfl⟩
              case measure => simp [intOf]; omega
            · have hm0' : (0 : Int) < (m : Int) := by omega
              by_cases hla : m + 1 = xs.length
              · have hla' : ((m : Int) == (xs.length : Int) - 1) = true := beq_iff_eq.2 (by omega)
                have hse : sepL xs.length m = (⟨#[32, 111, 114, 32]⟩ : ByteArray).data.toList := by unfold sepL; rw [if_neg hm0, if_pos hla]
                have hsl : (sepL xs.length m).length = 4 := by rw [hse]; rfl
                clear hla hm0
                have HPI : Hid (((posK xs.length xs (m + 1) : Nat) : Int) = (posK xs.length xs m : Int) + 4 + (y.size : Int)) := by
                  show _ = _
                  rw [HP.out, hsl]; push_cast; omega
                have HJ : Hid (StandsAt (orB xs) (posK xs.length xs m + 4) y) := by have := HI.out; rwa [hsl] at this
                have HSP : Hid (StandsAt (orB xs) (posK xs.length xs m) ⟨#[32, 111, 114, 32]⟩) := sep_stands xs m hlt2 ⟨#[32, 111, 114, 32]⟩ hse.symm
                clear HI HP hsl hse hy
                go_wp2_with fail
                refine (hasAt_at (orB xs) ⟨#[32, 111, 114, 32]⟩ (posK xs.length xs m) _ _ rfl (by omega) HSP.out).mono ?_
                rintro e w5 ⟨rfl, d1, rfl⟩
                go_wp2_with fail
                refine (hasAt_at (orB xs) y (posK xs.length xs m + 4) _ _ (by omega) (by omega) HJ.out).mono ?_
                rintro e w6 ⟨rfl, d2, rfl⟩
                go_wp2
                go_roundw
                case rel => exact ⟨m + 1, by omega, by go_num, by rw [HPI.out], _, rfl⟩
                case measure => simp [intOf]; omega
              · have hla' : ((m : Int) == (xs.length : Int) - 1) = false := beq_eq_false_iff_ne.2 (by omega)
                have hse : sepL xs.length m = (⟨#[44, 32]⟩ : ByteArray).data.toList := by unfold sepL; rw [if_neg hm0, if_neg hla]
                have hsl : (sepL xs.length m).length = 2 := by rw [hse]; rfl
                clear hla hm0
                have HPI : Hid (((posK xs.length xs (m + 1) : Nat) : Int) = (posK xs.length xs m : Int) + 2 + (y.size : Int)) := by
                  show _ = _
                  rw [HP.out, hsl]; push_cast; omega
                have HJ : Hid (StandsAt (orB xs) (posK xs.length xs m + 2) y) := by have := HI.out; rwa [hsl] at this
                have HSP : Hid (StandsAt (orB xs) (posK xs.length xs m) ⟨#[44, 32]⟩) := sep_stands xs m hlt2 ⟨#[44, 32]⟩ hse.symm
                clear HI HP hsl hse hy
                go_wp2_with fail
                refine (hasAt_at (orB xs) ⟨#[44, 32]⟩ (posK xs.length xs m) _ _ rfl (by omega) HSP.out).mono ?_
                rintro e w5 ⟨rfl, d1, rfl⟩
                go_wp2_with fail
                refine (hasAt_at (orB xs) y (posK xs.length xs m + 2) _ _ (by omega) (by omega) HJ.out).mono ?_
                rintro e w6 ⟨rfl, d2, rfl⟩
                go_wp2
                go_roundw
                case rel => exact ⟨m + 1, by omega, by go_num, by rw [HPI.out], _, rfl⟩
                case measure => simp [intOf]; omega
          · have hme : m = xs.length := by omega
            subst hme
            have hfin : (((posK xs.length xs xs.length : Nat) : Int) == ((orB xs).size : Int)) = true := by rw [posK_all xs hl1]; simp
            go_wp2
            go_ret
            exact ⟨rfl, below_draws_on HB3.out _⟩
      · have hE : (((orB xs).size : Int) != sumK xs xs.length) = false := by
          rw [HSUM.out, orB_size_one xs (by omega)]; simp
        clear HSUM
        go_wp2
        go_loopw [9, 10] (fun p i wr => ∃ m : Nat, m ≤ xs.length ∧ i = .int .i64 m ∧ p = .int .i64 (posK xs.length xs m : Nat) ∧ ∃ d, wr = w3.drewN d) (fun _ i _ => xs.length - (intOf i).toNat)
        case atStart => exact ⟨0, Nat.zero_le _, rfl, rfl, 0, rfl⟩
        case round =>
          obtain ⟨m, hm, rfl, rfl, d, rfl⟩ := hrel
          have hpm := posK_le xs m hl1 hm
          by_cases hlt2 : m < xs.length
          · obtain ⟨y, hy⟩ : ∃ y, xs[m]? = some y := ⟨_, List.getElem?_eq_getElem hlt2⟩
            have hcy := HC.out m y hy
            have hyl := size_of_all HG.out hy
            have HI : Hid (StandsAt (orB xs) (posK xs.length xs m + (sepL xs.length m).length) y) := item_stands xs m y hy
            have HP : Hid (posK xs.length xs (m + 1) = posK xs.length xs m + (sepL xs.length m).length + y.size) := posK_succ xs m y hy
            by_cases hm0 : m = 0
            · have hm0' : ¬ ((0 : Int) < (m : Int)) := by omega
              have hsl : (sepL xs.length m).length = 0 := by rw [hm0]; rfl
              have HPI : Hid (((posK xs.length xs (m + 1) : Nat) : Int) = (posK xs.length xs m : Int) + (y.size : Int)) := by
                show _ = _
                rw [HP.out, hsl]; push_cast; omega
              have HJ : Hid (StandsAt (orB xs) (posK xs.length xs m) y) := by have := HI.out; rwa [hsl] at this
              clear HI HP hsl hy hm0
              go_wp2_with fail
              refine (hasAt_at (orB xs) y (posK xs.length xs m) _ _ rfl (by omega) HJ.out).mono ?_
              rintro e w6 ⟨rfl, d2, rfl⟩
              go_wp2
              go_roundw
              case rel => exact ⟨m + 1, by omega, by go_num, by rw [HPI.out], _, rfl⟩
              case measure => simp [intOf]; omega
            · exfalso; omega
          · have hme : m = xs.length := by omega
            subst hme
            have hfin : (((posK xs.length xs xs.length : Nat) : Int) == ((orB xs).size : Int)) = true := by rw [posK_all xs hl1]; simp
            go_wp2
            go_ret
            exact ⟨rfl, below_draws_on HB3.out _⟩

end Go.Proofs.Qxb6605295a
