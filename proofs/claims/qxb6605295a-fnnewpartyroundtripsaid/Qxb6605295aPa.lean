import Derived.Test.Qxb6605295aRows
import Derived.WalkKit
import Derived.WalkSpells
import Derived.WalkLawsBesides
namespace Go.Proofs.Qxb6605295a
open Go.RowKit

set_option maxHeartbeats 400000 in
theorem toParty_any (s0 s1 s2 s3 s4 s5 s6 s7 s8 s9 s10 s11 s12 : ByteArray) (w : World) :
    Calls Try.prog 9 #[.agg #[.string s0, .string s1, .string s2, .string s3, .string s4, .string s5, .string s6, .string s7, .string s8, .string s9, .string s10, .string s11, .string s12]] w fun e w' =>
      e = .returned (.agg #[.string s0, .string s1, .string s2, .string s3, .string s4, .string s5, .string s6, .string s7, .string s8, .string s9, .string s10, .string s11, .string s12]) ∧ Below w.heap.size w w' := by
  go_enter Try.func9, Try.ntmps9
  go_wp2
  exact bodyPost_ret (v := .agg #[.string s0, .string s1, .string s2, .string s3, .string s4, .string s5, .string s6, .string s7, .string s8, .string s9, .string s10, .string s11, .string s12]) (by simp [results, Try.results9, go_sem]) rfl ⟨rfl, ((Below.refl _ _).alloc (Nat.le_refl _) _).alloc (by simp) _⟩

end Go.Proofs.Qxb6605295a
