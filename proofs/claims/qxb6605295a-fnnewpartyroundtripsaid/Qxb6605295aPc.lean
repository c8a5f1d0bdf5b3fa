import Derived.Test.Qxb6605295aRows
import Derived.WalkKit
import Derived.WalkSpells
import Derived.WalkLawsBesides
namespace Go.Proofs.Qxb6605295a
open Go.RowKit

set_option maxHeartbeats 4000000 in
theorem bytes_any (s0 s1 s2 s3 s4 s5 s6 s7 s8 s9 s10 s11 s12 : ByteArray) (w : World) :
    Calls Try.prog 6 #[.agg #[.string s0, .string s1, .string s2, .string s3, .string s4, .string s5, .string s6, .string s7, .string s8, .string s9, .string s10, .string s11, .string s12]] w fun e w' =>
      ∃ b, e = .returned (.bool b) ∧ Below w.heap.size w w' := by
  go_enter Try.func6, Try.ntmps6
  go_wp2
  all_goals
    go_ret
    exact ⟨_, rfl, (Below.refl _ _).alloc (Nat.le_refl _) _⟩

end Go.Proofs.Qxb6605295a
