/-
  No cell of these rows narrows 'for every input' (looked for: loops, veiled, ifaces, maps, wideKeys, modest, calm, conditions, laid).
  DERIVED. THE GIVEN ROWS OF THIS SEAT. 3 by the template 'for every input the law returns true; each argument reads behind the call as it read before'; 0 by the template 'total and deterministic' (their statements: Qxb6605298aTotals.lean).
  GIVEN WITH THE SEED: the statements are not yours to turn. If you find one false, say at which input.
  Laid BY PROGRAM, IN A SANDBOX (cutbox-rows.mjs): the forced cells as the released guide's own fill.sh prints them over the translation 77ad28049ac09018… (all of the seat's roots in one cut). By AI agents, Wed Nov 11 2026. No macro, syntax, notation, axiom, sorry.
-/
import Derived.Test.Qxb6605298aChecked
import GoSem.Claim
import GoSem.ClaimJoined
import GoSem.ClaimMapViews
import Derived.JoinedTies
import Derived.KernelRfl
namespace Go.Proofs.Qxb6605298a
/- THE CELL 'sum', in the pinned program and in every row, IS THE sha256 OF THE DUMP (.gsa) THAT Qxb6605298aProg.lean LOADS. Nothing in Lean hashes anything: it is a label: what it is worth is what the hold of that sum in a sandbox is worth. -/
noncomputable def Try.pinned : Pinned := { name := "qxb6605298a", sum := "77ad28049ac09018114e1cf6625248ba0fee5621b5cbda3e5727307b2c96fa70", checked := Try.checked }
namespace Rows
def none {H : Type} : Left H := { results := [], args := [] }

/-- 'zzlaws_internal_datafile_b1.FnIsDecimalIsDigitsWithOptionalFraction': WHATEVER THE INPUT: true; the input reads as it did. -/
def fnIsDecimalIsDigitsWithOptionalFractionSpec : ChangeSpec := { name := "fnIsDecimalIsDigitsWithOptionalFraction", fn := fun _ => fun
  | [d] => { results := [.lit (.bool true)], args := [d] }
  | _ => none }
def fnIsDecimalIsDigitsWithOptionalFractionRow : OpenClaim := { program := "qxb6605298a", sum := "77ad28049ac09018114e1cf6625248ba0fee5621b5cbda3e5727307b2c96fa70", func := "example.com/tuoguan/tuoguan/zzlaws_internal_datafile_b1.FnIsDecimalIsDigitsWithOptionalFraction", spec := "fnIsDecimalIsDigitsWithOptionalFraction", apart := false }
def FnIsDecimalIsDigitsWithOptionalFractionSaid : Prop := fnIsDecimalIsDigitsWithOptionalFractionRow.holds Try.pinned (OpenSpec.ofChange fnIsDecimalIsDigitsWithOptionalFractionSpec)

/-- ITS FALSE NEIGHBOUR: 'it returns false'. Refute it at one input. -/
def fnIsDecimalIsDigitsWithOptionalFractionWrong : ChangeSpec := { name := "fnIsDecimalIsDigitsWithOptionalFraction", fn := fun _ => fun
  | [d] => { results := [.lit (.bool false)], args := [d] }
  | _ => none }
def FnIsDecimalIsDigitsWithOptionalFractionWrongFalsely : Prop := fnIsDecimalIsDigitsWithOptionalFractionRow.holds Try.pinned (OpenSpec.ofChange fnIsDecimalIsDigitsWithOptionalFractionWrong)

/-- 'zzlaws_internal_datafile_b1.FnIsDecimalByPartsTable': WHATEVER THE INPUT: true; the input reads as it did. -/
def fnIsDecimalByPartsTableSpec : ChangeSpec := { name := "fnIsDecimalByPartsTable", fn := fun _ => fun
  | [d1, d2] => { results := [.lit (.bool true)], args := [d1, d2] }
  | _ => none }
def fnIsDecimalByPartsTableRow : OpenClaim := { program := "qxb6605298a", sum := "77ad28049ac09018114e1cf6625248ba0fee5621b5cbda3e5727307b2c96fa70", func := "example.com/tuoguan/tuoguan/zzlaws_internal_datafile_b1.FnIsDecimalByPartsTable", spec := "fnIsDecimalByPartsTable", apart := false }
def FnIsDecimalByPartsTableSaid : Prop := fnIsDecimalByPartsTableRow.holds Try.pinned (OpenSpec.ofChange fnIsDecimalByPartsTableSpec)

/-- ITS FALSE NEIGHBOUR: 'it returns false'. Refute it at one input. -/
def fnIsDecimalByPartsTableWrong : ChangeSpec := { name := "fnIsDecimalByPartsTable", fn := fun _ => fun
  | [d1, d2] => { results := [.lit (.bool false)], args := [d1, d2] }
  | _ => none }
def FnIsDecimalByPartsTableWrongFalsely : Prop := fnIsDecimalByPartsTableRow.holds Try.pinned (OpenSpec.ofChange fnIsDecimalByPartsTableWrong)

/-- 'zzlaws_internal_datafile_b1.FnKeyFindsTheFirstKeyOfThatName': WHATEVER THE INPUT: true; the input reads as it did. -/
def fnKeyFindsTheFirstKeyOfThatNameSpec : ChangeSpec := { name := "fnKeyFindsTheFirstKeyOfThatName", fn := fun _ => fun
  | [d1, d2, d3, d4, d5, d6] => { results := [.lit (.bool true)], args := [d1, d2, d3, d4, d5, d6] }
  | _ => none }
def fnKeyFindsTheFirstKeyOfThatNameRow : OpenClaim := { program := "qxb6605298a", sum := "77ad28049ac09018114e1cf6625248ba0fee5621b5cbda3e5727307b2c96fa70", func := "example.com/tuoguan/tuoguan/zzlaws_internal_datafile_b1.FnKeyFindsTheFirstKeyOfThatName", spec := "fnKeyFindsTheFirstKeyOfThatName", apart := false }
def FnKeyFindsTheFirstKeyOfThatNameSaid : Prop := fnKeyFindsTheFirstKeyOfThatNameRow.holds Try.pinned (OpenSpec.ofChange fnKeyFindsTheFirstKeyOfThatNameSpec)

/-- ITS FALSE NEIGHBOUR: 'it returns false'. Refute it at one input. -/
def fnKeyFindsTheFirstKeyOfThatNameWrong : ChangeSpec := { name := "fnKeyFindsTheFirstKeyOfThatName", fn := fun _ => fun
  | [d1, d2, d3, d4, d5, d6] => { results := [.lit (.bool false)], args := [d1, d2, d3, d4, d5, d6] }
  | _ => none }
def FnKeyFindsTheFirstKeyOfThatNameWrongFalsely : Prop := fnKeyFindsTheFirstKeyOfThatNameRow.holds Try.pinned (OpenSpec.ofChange fnKeyFindsTheFirstKeyOfThatNameWrong)

end Rows
end Go.Proofs.Qxb6605298a
