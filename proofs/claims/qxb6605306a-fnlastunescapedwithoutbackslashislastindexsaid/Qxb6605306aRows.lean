/-
  No cell of these rows narrows 'for every input' (looked for: loops, veiled, ifaces, maps, wideKeys, modest, calm, conditions, laid).
  DERIVED. THE GIVEN ROWS OF THIS SEAT. 2 by the template 'for every input the law returns true; each argument reads behind the call as it read before'; 0 by the template 'total and deterministic' (their statements: Qxb6605306aTotals.lean).
  GIVEN WITH THE SEED: the statements are not yours to turn. If you find one false, say at which input.
  Laid BY PROGRAM, IN A SANDBOX (cutbox-rows.mjs): the forced cells as the released guide's own fill.sh prints them over the translation 05c9b4159ca09dd2… (all of the seat's roots in one cut). By AI agents, Wed Nov 11 2026. No macro, syntax, notation, axiom, sorry.
-/
import Derived.Test.Qxb6605306aChecked
import GoSem.Claim
import GoSem.ClaimJoined
import GoSem.ClaimMapViews
import Derived.JoinedTies
import Derived.KernelRfl
namespace Go.Proofs.Qxb6605306a
/- THE CELL 'sum', in the pinned program and in every row, IS THE sha256 OF THE DUMP (.gsa) THAT Qxb6605306aProg.lean LOADS. Nothing in Lean hashes anything: it is a label: what it is worth is what the hold of that sum in a sandbox is worth. -/
noncomputable def Try.pinned : Pinned := { name := "qxb6605306a", sum := "05c9b4159ca09dd27222908586c74238a50d49c92a97df268bf6fd79fb1cf87c", checked := Try.checked }
namespace Rows
def none {H : Type} : Left H := { results := [], args := [] }

/-- 'zzlaws_internal_config_b1.FnLastUnescapedIsLastUnescapedIndex': WHATEVER THE INPUT: true; the input reads as it did. -/
def fnLastUnescapedIsLastUnescapedIndexSpec : ChangeSpec := { name := "fnLastUnescapedIsLastUnescapedIndex", fn := fun _ => fun
  | [d1, d2] => { results := [.lit (.bool true)], args := [d1, d2] }
  | _ => none }
def fnLastUnescapedIsLastUnescapedIndexRow : OpenClaim := { program := "qxb6605306a", sum := "05c9b4159ca09dd27222908586c74238a50d49c92a97df268bf6fd79fb1cf87c", func := "example.com/plaine/plaine/zzlaws_internal_config_b1.FnLastUnescapedIsLastUnescapedIndex", spec := "fnLastUnescapedIsLastUnescapedIndex", apart := false }
def FnLastUnescapedIsLastUnescapedIndexSaid : Prop := fnLastUnescapedIsLastUnescapedIndexRow.holds Try.pinned (OpenSpec.ofChange fnLastUnescapedIsLastUnescapedIndexSpec)

/-- ITS FALSE NEIGHBOUR: 'it returns false'. Refute it at one input. -/
def fnLastUnescapedIsLastUnescapedIndexWrong : ChangeSpec := { name := "fnLastUnescapedIsLastUnescapedIndex", fn := fun _ => fun
  | [d1, d2] => { results := [.lit (.bool false)], args := [d1, d2] }
  | _ => none }
def FnLastUnescapedIsLastUnescapedIndexWrongFalsely : Prop := fnLastUnescapedIsLastUnescapedIndexRow.holds Try.pinned (OpenSpec.ofChange fnLastUnescapedIsLastUnescapedIndexWrong)

/-- 'zzlaws_internal_config_b1.FnLastUnescapedWithoutBackslashIsLastIndex': WHATEVER THE INPUT: true; the input reads as it did. -/
def fnLastUnescapedWithoutBackslashIsLastIndexSpec : ChangeSpec := { name := "fnLastUnescapedWithoutBackslashIsLastIndex", fn := fun _ => fun
  | [d1, d2] => { results := [.lit (.bool true)], args := [d1, d2] }
  | _ => none }
def fnLastUnescapedWithoutBackslashIsLastIndexRow : OpenClaim := { program := "qxb6605306a", sum := "05c9b4159ca09dd27222908586c74238a50d49c92a97df268bf6fd79fb1cf87c", func := "example.com/plaine/plaine/zzlaws_internal_config_b1.FnLastUnescapedWithoutBackslashIsLastIndex", spec := "fnLastUnescapedWithoutBackslashIsLastIndex", apart := false }
def FnLastUnescapedWithoutBackslashIsLastIndexSaid : Prop := fnLastUnescapedWithoutBackslashIsLastIndexRow.holds Try.pinned (OpenSpec.ofChange fnLastUnescapedWithoutBackslashIsLastIndexSpec)

/-- ITS FALSE NEIGHBOUR: 'it returns false'. Refute it at one input. -/
def fnLastUnescapedWithoutBackslashIsLastIndexWrong : ChangeSpec := { name := "fnLastUnescapedWithoutBackslashIsLastIndex", fn := fun _ => fun
  | [d1, d2] => { results := [.lit (.bool false)], args := [d1, d2] }
  | _ => none }
def FnLastUnescapedWithoutBackslashIsLastIndexWrongFalsely : Prop := fnLastUnescapedWithoutBackslashIsLastIndexRow.holds Try.pinned (OpenSpec.ofChange fnLastUnescapedWithoutBackslashIsLastIndexWrong)

end Rows
end Go.Proofs.Qxb6605306a
