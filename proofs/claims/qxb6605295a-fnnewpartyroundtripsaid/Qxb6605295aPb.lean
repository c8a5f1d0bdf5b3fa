import Derived.Test.Qxb6605295aRows
import Derived.WalkKit
import Derived.WalkSpells
import Derived.WalkLawsBesides
namespace Go.Proofs.Qxb6605295a
open Go.RowKit

/-- a bool, whichever; nothing old has turned -/
def RetBool (w : World) (e : Ending) (w' : World) : Prop := ∃ b, e = .returned (.bool b) ∧ Below w.heap.size w w'

set_option maxHeartbeats 4000000 in
theorem fits_any (s0 s1 s2 s3 s4 s5 s6 s7 s8 s9 s10 s11 s12 : ByteArray) (w : World) :
    Calls Try.prog 7 #[.agg #[.string s0, .string s1, .string s2, .string s3, .string s4, .string s5, .string s6, .string s7, .string s8, .string s9, .string s10, .string s11, .string s12]] w (RetBool w) := by
  have hB : Below w.heap.size w (w.alloc (.cells #[.string s0, .string s1, .string s2, .string s3, .string s4, .string s5, .string s6, .string s7, .string s8, .string s9, .string s10, .string s11, .string s12] 23)) := (Below.refl _ _).alloc (Nat.le_refl _) _
  have HB : Hid _ := hB
  clear hB
  by_cases c0 : (s0.size : Int) ≤ 65536
  · by_cases c1 : (s1.size : Int) ≤ 65536
    · by_cases c2 : (s2.size : Int) ≤ 65536
      · by_cases c3 : (s3.size : Int) ≤ 65536
        · by_cases c4 : (s4.size : Int) ≤ 65536
          · by_cases c5 : (s5.size : Int) ≤ 65536
            · by_cases c6 : (s6.size : Int) ≤ 65536
              · by_cases c7 : (s7.size : Int) ≤ 65536
                · by_cases c8 : (s8.size : Int) ≤ 65536
                  · by_cases c9 : (s9.size : Int) ≤ 65536
                    · by_cases c10 : (s10.size : Int) ≤ 65536
                      · by_cases c11 : (s11.size : Int) ≤ 65536
                        · by_cases c12 : (s12.size : Int) ≤ 65536
                          · go_enter Try.func7, Try.ntmps7
                            go_wp2
                            go_ret
                            exact ⟨_, rfl, HB.out⟩
                          · go_enter Try.func7, Try.ntmps7
                            go_wp2
                            go_ret
                            exact ⟨_, rfl, HB.out⟩
                        · go_enter Try.func7, Try.ntmps7
                          go_wp2
                          go_ret
                          exact ⟨_, rfl, HB.out⟩
                      · go_enter Try.func7, Try.ntmps7
                        go_wp2
                        go_ret
                        exact ⟨_, rfl, HB.out⟩
                    · go_enter Try.func7, Try.ntmps7
                      go_wp2
                      go_ret
                      exact ⟨_, rfl, HB.out⟩
                  · go_enter Try.func7, Try.ntmps7
                    go_wp2
                    go_ret
                    exact ⟨_, rfl, HB.out⟩
                · go_enter Try.func7, Try.ntmps7
                  go_wp2
                  go_ret
                  exact ⟨_, rfl, HB.out⟩
              · go_enter Try.func7, Try.ntmps7
                go_wp2
                go_ret
                exact ⟨_, rfl, HB.out⟩
            · go_enter Try.func7, Try.ntmps7
              go_wp2
              go_ret
              exact ⟨_, rfl, HB.out⟩
          · go_enter Try.func7, Try.ntmps7
            go_wp2
            go_ret
            exact ⟨_, rfl, HB.out⟩
        · go_enter Try.func7, Try.ntmps7
          go_wp2
          go_ret
          exact ⟨_, rfl, HB.out⟩
      · go_enter Try.func7, Try.ntmps7
        go_wp2
        go_ret
        exact ⟨_, rfl, HB.out⟩
    · go_enter Try.func7, Try.ntmps7
      go_wp2
      go_ret
      exact ⟨_, rfl, HB.out⟩
  · go_enter Try.func7, Try.ntmps7
    go_wp2
    go_ret
    exact ⟨_, rfl, HB.out⟩

end Go.Proofs.Qxb6605295a
