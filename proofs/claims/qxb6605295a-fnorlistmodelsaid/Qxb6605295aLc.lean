import Derived.Test.Qxb6605295aLa
import Derived.Deep.QuietTactic
import Derived.BigQuiet
namespace Go.Proofs.Qxb6605295a
open Go.RowKit

theorem drewN_drewN (w : World) (a b : Nat) : (w.drewN a).drewN b = w.drewN (a + b) := by
  simp [World.drewN, Nat.add_assoc]

/-- t stands in s at position p -/
def StandsAt (s : ByteArray) (p : Nat) (t : ByteArray) : Prop := p + t.size ≤ s.size ∧ ∀ (i : Nat) (hi : i < t.size) (hj : p + i < s.size), s[p + i] = t[i]

set_option maxHeartbeats 1000000 in
theorem hasAt_yes (s t : ByteArray) (p : Nat) (w : World) (hs : s.size ≤ 4294967296) (h : StandsAt s p t) :
    Calls Try.prog 13 #[.string s, .int .i64 p, .string t] w fun e w' => e = .returned (.bool true) ∧ ∃ n, w' = w.drewN n := by
  obtain ⟨hle, hst⟩ := h
  have h1 : ¬ ((p : Int) < 0) := by omega
  have h2 : ¬ ((s.size : Int) < (p : Int)) := by omega
  have h3 : ¬ ((s.size : Int) - (p : Int) < (t.size : Int)) := by omega
  go_enter Try.func13, Try.ntmps13
  go_wp2
  go_loopw [7] (fun i wr => ∃ k : Nat, k ≤ t.size ∧ i = .int .i64 k ∧ ∃ n, wr = w.drewN n) (fun i _ => t.size - (intOf i).toNat)
  case atStart => exact ⟨0, Nat.zero_le _, rfl, 0, rfl⟩
  case round =>
    obtain ⟨k, hk, rfl, n, rfl⟩ := hrel
    by_cases hlt : k < t.size
    · have HE : Hid (∀ (hi : k < t.size) (hj : p + k < s.size), s[p + k] = t[k]) := hst k
      have hj : p + k < s.size := by omega
      have hji : (p : Int) + (k : Int) < (s.size : Int) := by omega
      have hj0 : (0 : Int) ≤ (p : Int) + (k : Int) := by omega
      have hki : (k : Int) < (t.size : Int) := by omega
      clear hst
      go_wp2
      go_quiet (fail)
      go_wp2
      · exfalso
        have hne : (((s[p + k]'hj).toNat : Int) != ((t[k]'hlt).toNat : Int)) = true := by assumption
        rw [HE.out hlt hj] at hne
        simp at hne
      · go_roundw
        case rel => exact ⟨k + 1, by omega, by go_num, _, rfl⟩
        case measure => simp [intOf]; omega
    · go_wp2
      go_ret
      exact ⟨rfl, _, rfl⟩

end Go.Proofs.Qxb6605295a
