/-
  No cell of these rows narrows 'for every input' (looked for: loops, veiled, ifaces, maps, wideKeys, modest, calm, conditions, laid).
  DERIVED. THE GIVEN ROWS OF THIS SEAT. 1 by the template 'for every input the law returns true; each argument reads behind the call as it read before'; 0 by the template 'total and deterministic' (their statements: Qxb6605375aTotals.lean).
  GIVEN WITH THE SEED: the statements are not yours to turn. If you find one false, say at which input.
  Laid BY PROGRAM, IN A SANDBOX (cutbox-rows.mjs): the forced cells as the released guide's own fill.sh prints them over the translation abc101ca0664bf45… (all of the seat's roots in one cut). By AI agents, Wed Nov 11 2026. No macro, syntax, notation, axiom, sorry.
-/
import Derived.Test.Qxb6605375aChecked
import GoSem.Claim
import GoSem.ClaimJoined
import GoSem.ClaimMapViews
import Derived.JoinedTies
import Derived.KernelRfl
namespace Go.Proofs.Qxb6605375a
/- THE CELL 'sum', in the pinned program and in every row, IS THE sha256 OF THE DUMP (.gsa) THAT Qxb6605375aProg.lean LOADS. Nothing in Lean hashes anything: it is a label: what it is worth is what the hold of that sum in a sandbox is worth. -/
noncomputable def Try.pinned : Pinned := { name := "qxb6605375a", sum := "abc101ca0664bf45d06cf80db0109854262ae42c0a2fba6e092c612001edf128", checked := Try.checked }
namespace Rows
def none {H : Type} : Left H := { results := [], args := [] }

/-- 'zzlaws_internal_fastcdc_b1.FnCutIsKeptWhenBytesPastItChange': WHATEVER THE INPUT: true; the input reads as it did. -/
def fnCutIsKeptWhenBytesPastItChangeSpec : ChangeSpec := { name := "fnCutIsKeptWhenBytesPastItChange", fn := fun _ => fun
  | [d1, d2, d3, d4, d5, d6, d7] => { results := [.lit (.bool true)], args := [d1, d2, d3, d4, d5, d6, d7] }
  | _ => none }
def fnCutIsKeptWhenBytesPastItChangeRow : OpenClaim := { program := "qxb6605375a", sum := "abc101ca0664bf45d06cf80db0109854262ae42c0a2fba6e092c612001edf128", func := "example.com/tessellate/tessellate/zzlaws_internal_fastcdc_b1.FnCutIsKeptWhenBytesPastItChange", spec := "fnCutIsKeptWhenBytesPastItChange", apart := false }
def FnCutIsKeptWhenBytesPastItChangeSaid : Prop := fnCutIsKeptWhenBytesPastItChangeRow.holds Try.pinned (OpenSpec.ofChange fnCutIsKeptWhenBytesPastItChangeSpec)

/-- ITS FALSE NEIGHBOUR: 'it returns false'. Refute it at one input. -/
def fnCutIsKeptWhenBytesPastItChangeWrong : ChangeSpec := { name := "fnCutIsKeptWhenBytesPastItChange", fn := fun _ => fun
  | [d1, d2, d3, d4, d5, d6, d7] => { results := [.lit (.bool false)], args := [d1, d2, d3, d4, d5, d6, d7] }
  | _ => none }
def FnCutIsKeptWhenBytesPastItChangeWrongFalsely : Prop := fnCutIsKeptWhenBytesPastItChangeRow.holds Try.pinned (OpenSpec.ofChange fnCutIsKeptWhenBytesPastItChangeWrong)

end Rows
end Go.Proofs.Qxb6605375a
