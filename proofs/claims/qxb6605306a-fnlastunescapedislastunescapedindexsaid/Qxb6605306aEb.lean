import Derived.Test.Qxb6605306aEa
namespace Go.Proofs.Qxb6605306a
open Go.RowKit

/-- a bool, whichever; the world as it was -/
def RetB (w : World) (e : Ending) (w' : World) : Prop := ∃ b, e = .returned (.bool b) ∧ w' = w
set_option maxHeartbeats 400000 in
theorem bytes5_any (a : Option Addr) (n cap : Nat) (c : Int) (w : World) : Calls Try.prog 5 #[.slice a n cap, .int .u8 c] w (RetB w) := by
  go_enter Try.func5, Try.ntmps5
  go_wp2
  all_goals
    go_ret
    exact ⟨_, rfl, rfl⟩
set_option maxHeartbeats 400000 in
theorem bytes9_any (a : Option Addr) (n cap : Nat) (c : Int) (w : World) : Calls Try.prog 9 #[.slice a n cap, .int .u8 c] w (RetB w) := by
  go_enter Try.func9, Try.ntmps9
  go_wp2
  all_goals
    go_ret
    exact ⟨_, rfl, rfl⟩

theorem ret_bool {a b : Bool} (h : a = b) : Ending.returned (.bool a) = .returned (.bool b) := by rw [h]
theorem ret_int {a b : Int} (h : a = b) : Ending.returned (.int .i64 a) = .returned (.int .i64 b) := by rw [h]

/-- the byte at i, and the byte ahead of it, decide -/
theorem unB_no {zs : List Int} {c : Int} {i : Nat} {z : Int} (hz : zs.getD i 0 = z) (h : z ≠ c) : unB zs c i = false := by
  unfold unB; rw [hz, beq_eq_false_iff_ne.2 h]; rfl
theorem unB_zero {zs : List Int} {c : Int} {z : Int} (hz : zs.getD 0 0 = z) (h : z = c) : unB zs c 0 = true := by
  unfold unB; rw [hz, h]; simp
theorem unB_succ {zs : List Int} {c : Int} {i : Nat} {z y : Int} (hz : zs.getD (i + 1) 0 = z) (h : z = c) (hy : zs.getD i 0 = y) : unB zs c (i + 1) = (y != 92) := by
  unfold unB; rw [hz, h, Nat.add_sub_cancel, hy]; simp

set_option maxHeartbeats 1000000 in
theorem unescapedAt_any (b off cap : Nat) (zs : List Int) (c : Int) (i : Nat) (B : Bool) (w : World) (hi : i < zs.length) (hl : zs.length ≤ 1048576)
    (hc : ∀ i, i < zs.length → w.cell? ⟨b, off + i, none⟩ = some (.int .u8 (zs.getD i 0))) (hB : unB zs c i = B) :
    Calls Try.prog 8 #[.slice (some ⟨b, off, none⟩) zs.length cap, .int .u8 c, .int .i64 i] w fun e w' => e = .returned (.bool B) ∧ w' = w := by
  obtain ⟨z, hz⟩ : ∃ z, zs.getD i 0 = z := ⟨_, rfl⟩
  have hci := hc i hi
  rw [hz] at hci
  by_cases hzc : z = c
  · have hzc' : (z != c) = false := by rw [hzc]; simp
    cases i with
    | zero =>
      have HB : Hid (B = true) := by rw [← hB]; exact unB_zero hz hzc
      have hc0 : w.cell? ⟨b, off, none⟩ = some (.int .u8 z) := hci
      have hl0 : (0 : Int) < (zs.length : Int) := by omega
      clear hci
      clear hc hz hB hzc
      go_enter Try.func8, Try.ntmps8
      go_wp2
      go_ret
      exact ⟨ret_bool HB.out.symm, rfl⟩
    | succ j =>
      obtain ⟨y, hy⟩ : ∃ y, zs.getD j 0 = y := ⟨_, rfl⟩
      have hcj := hc j (by omega)
      rw [hy] at hcj
      have HB : Hid (B = (y != 92)) := by rw [← hB]; exact unB_succ hz hzc hy
      clear hc hz hB hzc hy
      go_enter Try.func8, Try.ntmps8
      go_wp2
      go_ret
      exact ⟨ret_bool HB.out.symm, rfl⟩
  · have hzc' : (z != c) = true := bne_iff_ne.2 hzc
    have HB : Hid (B = false) := by rw [← hB]; exact unB_no hz hzc
    clear hc hz hB hzc
    go_enter Try.func8, Try.ntmps8
    go_wp2
    go_ret
    exact ⟨ret_bool HB.out.symm, rfl⟩

theorem lastUp_yes {zs : List Int} {c : Int} {j : Nat} (h : unB zs c j = true) : lastUp zs c (j + 1) = (j : Int) := by rw [lastUp, if_pos h]
theorem lastUp_no {zs : List Int} {c : Int} {j : Nat} (h : unB zs c j = false) : lastUp zs c (j + 1) = lastUp zs c j := by rw [lastUp, if_neg (by simp [h])]

set_option maxHeartbeats 1000000 in
theorem last_any (a : Option Addr) (zs : List Int) (cap : Nat) (c : Int) (w : World) (hs : BAt w a zs) (hl : zs.length ≤ 1048576) :
    Calls Try.prog 10 #[.slice a zs.length cap, .int .u8 c] w fun e w' => e = .returned (.int .i64 (lastUp zs c zs.length)) ∧ w' = w := by
  go_enter Try.func10, Try.ntmps10
  go_wp2
  go_loop [5] (fun i => ∃ m : Int, i = .int .i64 m ∧ -1 ≤ m ∧ m < zs.length ∧ lastUp zs c zs.length = lastUp zs c (m + 1).toNat) (fun i => (intOf i + 1).toNat)
  case atStart => exact ⟨_, rfl, by omega, by omega, by congr 1; omega⟩
  case round =>
    obtain ⟨m, rfl, hm1, hm2, hm3⟩ := hrel
    by_cases hm0 : 0 ≤ m
    · obtain ⟨j, rfl⟩ : ∃ j : Nat, m = (j : Int) := ⟨m.toNat, by omega⟩
      have hj : j < zs.length := by omega
      have HM : Hid (lastUp zs c zs.length = lastUp zs c (j + 1)) := by
        show _ = _
        rw [hm3]; congr 1
      have hlp : 0 < zs.length := by omega
      obtain ⟨b, off, rfl, hblt, hc⟩ := hs.addr hlp
      obtain ⟨z, hz⟩ : ∃ z, zs.getD j 0 = z := ⟨_, rfl⟩
      have hcj := hc j hj
      rw [hz] at hcj
      by_cases hzc : z = c
      · have hzc' : (z == c) = true := by rw [hzc]; simp
        cases j with
        | zero =>
          have HF : Hid (lastUp zs c zs.length = 0) := HM.out.trans (lastUp_yes (unB_zero hz hzc))
          have hc0 : w.cell? ⟨b, off, none⟩ = some (.int .u8 z) := hcj
          have hl0 : (0 : Int) < (zs.length : Int) := by omega
          clear hc hcj hs hm3 hz hzc
          go_wp2
          go_ret
          exact ⟨ret_int HF.out.symm, rfl⟩
        | succ j =>
          obtain ⟨y, hy⟩ : ∃ y, zs.getD j 0 = y := ⟨_, rfl⟩
          have hcy := hc j (by omega)
          rw [hy] at hcy
          have hu := unB_succ hz hzc hy
          by_cases hyb : y = 92
          · have hyb' : (y != 92) = false := by rw [hyb]; rfl
            have HF : Hid (lastUp zs c zs.length = lastUp zs c (j + 1)) := HM.out.trans (lastUp_no (by rw [hu, hyb']))
            clear hc hs hm3 hz hzc hy hu hyb HM
            go_wp2
            go_round
            case rel => exact ⟨_, rfl, by omega, by omega, by rw [HF.out]; congr 1⟩
            case measure => simp [intOf]; omega
          · have hyb' : (y != 92) = true := bne_iff_ne.2 hyb
            have HF : Hid (lastUp zs c zs.length = ((j + 1 : Nat) : Int)) := HM.out.trans (lastUp_yes (by rw [hu, hyb']))
            clear hc hs hm3 hz hzc hy hu hyb HM
            go_wp2
            go_ret
            exact ⟨ret_int (by rw [HF.out]; rfl), rfl⟩
      · have hzc' : (z == c) = false := beq_eq_false_iff_ne.2 hzc
        have HF : Hid (lastUp zs c zs.length = lastUp zs c j) := HM.out.trans (lastUp_no (unB_no hz hzc))
        clear hc hs hm3 hz hzc HM
        go_wp2
        go_round
        case rel => exact ⟨_, rfl, by omega, by omega, by rw [HF.out]; congr 1; omega⟩
        case measure => simp [intOf]
    · have HF : Hid (lastUp zs c zs.length = -1) := by
        show _ = _
        rw [hm3, show (m + 1).toNat = 0 by omega]; rfl
      clear hm3 hs
      go_wp2
      go_ret
      exact ⟨ret_int HF.out.symm, rfl⟩

set_option maxHeartbeats 400000 in
theorem zzLast_any (a : Option Addr) (zs : List Int) (cap : Nat) (c r : Int) (w : World) (hs : BAt w a zs) (hl : zs.length ≤ 1048576) (hr : lastUp zs c zs.length = r) :
    Calls Try.prog 7 #[.slice a zs.length cap, .int .u8 c] w fun e w' => e = .returned (.int .i64 r) ∧ w' = w := by
  have HR : Hid (lastUp zs c zs.length = r) := hr
  clear hr
  go_enter Try.func7, Try.ntmps7
  go_wp2_with fail
  refine (last_any a zs cap c w hs hl).mono ?_
  rintro e w' ⟨rfl, rfl⟩
  rw [HR.out]
  go_wp2
  go_ret
  exact ⟨rfl, rfl⟩

end Go.Proofs.Qxb6605306a
