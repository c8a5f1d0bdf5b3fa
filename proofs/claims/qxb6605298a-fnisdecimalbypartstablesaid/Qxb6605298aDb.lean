import Derived.Test.Qxb6605298aDa
import Derived.WalkSpells
import Derived.WalkLawsBesides
namespace Go.Proofs.Qxb6605298a
open Go.RowKit

theorem get_byte (s : ByteArray) (k : Nat) (h : k < s.size) : s.data.toList[k]? = some s[k] := by
  rw [List.getElem?_eq_getElem (by simpa using h)]; rfl
theorem len_data (s : ByteArray) : s.data.toList.length = s.size := by rw [Array.length_toList]; rfl

set_option maxHeartbeats 400000 in
theorem digE_any (s : ByteArray) (w : World) (hs : s.size ≤ maxLen) :
    Calls Try.prog 10 #[.string s] w fun e w' => e = .returned (.bool (digE s.data.toList)) ∧ w' = w := by
  unfold maxLen at hs
  go_enter Try.func10, Try.ntmps10
  go_wp2
  go_loop [3] (fun i => ∃ k : Nat, k ≤ s.size ∧ i = .int .i64 k ∧ digE s.data.toList = digE (s.data.toList.drop k)) (fun i => s.size - (intOf i).toNat)
  case atStart => exact ⟨0, Nat.zero_le _, rfl, by simp⟩
  case round =>
    obtain ⟨k, hk, rfl, hrel⟩ := hrel
    have HR : Hid _ := hrel
    clear hrel
    by_cases hlt : k < s.size
    · have HD : Hid (s.data.toList.drop k = s[k] :: s.data.toList.drop (k + 1)) := drop_cons _ k _ (get_byte s k hlt)
      by_cases h1 : ((s[k]'hlt).toNat : Int) < 48
      · go_wp2
        go_ret
        refine ⟨?_, rfl⟩
        have e : digE s.data.toList = false := by rw [HR.out, HD.out]; simp [digE, isDig]; omega
        rw [e]; rfl
      · by_cases h2 : (57 : Int) < ((s[k]'hlt).toNat : Int)
        · go_wp2
          go_ret
          refine ⟨?_, rfl⟩
          have e : digE s.data.toList = false := by rw [HR.out, HD.out]; simp [digE, isDig]; omega
          rw [e]; rfl
        · go_wp2
          go_round
          case rel =>
            refine ⟨k + 1, by omega, by go_num, ?_⟩
            rw [HR.out, HD.out]
            have e : isDig s[k] = true := by simp [isDig]; omega
            simp [digE, e]
          case measure => simp [intOf]; omega
    · go_wp2
      go_ret
      refine ⟨?_, rfl⟩
      have e : digE s.data.toList = true := by rw [HR.out, List.drop_of_length_le (by rw [len_data]; omega)]; rfl
      rw [e]; rfl

set_option maxHeartbeats 400000 in
theorem digO_any (s : ByteArray) (b : Bool) (w : World) (hs : s.size ≤ maxLen) (hb : digO s.data.toList = b) :
    Calls Try.prog 24 #[.string s] w fun e w' => e = .returned (.bool b) ∧ w' = w := by
  by_cases h0 : (0 : Int) < (s.size : Int)
  · have HB : Hid (digE s.data.toList = b) := by
      show _ = _
      rw [← hb]; unfold digO; rw [len_data]; simp; omega
    clear hb
    go_enter Try.func24, Try.ntmps24
    go_wp2_with fail
    refine (digE_any s w hs).mono ?_
    rintro e w' ⟨rfl, rfl⟩
    rw [HB.out]
    go_wp2
    go_ret
    exact ⟨rfl, rfl⟩
  · have HB : Hid (b = false) := by
      show _ = _
      rw [← hb]; unfold digO; rw [len_data]; simp; omega
    clear hb
    go_enter Try.func24, Try.ntmps24
    go_wp2
    go_ret
    refine ⟨?_, rfl⟩
    rw [HB.out]; rfl

end Go.Proofs.Qxb6605298a
