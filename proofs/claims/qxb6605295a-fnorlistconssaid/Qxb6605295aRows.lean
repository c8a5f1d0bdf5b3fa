/-
  No cell of these rows narrows 'for every input' (looked for: loops, veiled, ifaces, maps, wideKeys, modest, calm, conditions, laid).
  DERIVED. THE GIVEN ROWS OF THIS SEAT. 3 by the template 'for every input the law returns true; each argument reads behind the call as it read before'; 0 by the template 'total and deterministic' (their statements: Qxb6605295aTotals.lean).
  GIVEN WITH THE SEED: the statements are not yours to turn. If you find one false, say at which input.
  Laid BY PROGRAM, IN A SANDBOX (cutbox-rows.mjs): the forced cells as the released guide's own fill.sh prints them over the translation c49a3caf65c591f8… (all of the seat's roots in one cut). By AI agents, Wed Nov 11 2026. No macro, syntax, notation, axiom, sorry.
-/
import Derived.Test.Qxb6605295aChecked
import GoSem.Claim
import GoSem.ClaimJoined
import GoSem.ClaimMapViews
import Derived.JoinedTies
import Derived.KernelRfl
namespace Go.Proofs.Qxb6605295a
/- THE CELL 'sum', in the pinned program and in every row, IS THE sha256 OF THE DUMP (.gsa) THAT Qxb6605295aProg.lean LOADS. Nothing in Lean hashes anything: it is a label: what it is worth is what the hold of that sum in a sandbox is worth. -/
noncomputable def Try.pinned : Pinned := { name := "qxb6605295a", sum := "c49a3caf65c591f8dc5f13379927c576891a5bdb3dac48622a160f0962a6c83c", checked := Try.checked }
namespace Rows
def none {H : Type} : Left H := { results := [], args := [] }

/-- 'zzlaws_pkg_ubl_b1.FnNewPartyRoundTrip': WHATEVER THE INPUT: true; the input reads as it did. -/
def fnNewPartyRoundTripSpec : ChangeSpec := { name := "fnNewPartyRoundTrip", fn := fun _ => fun
  | [d] => { results := [.lit (.bool true)], args := [d] }
  | _ => none }
def fnNewPartyRoundTripRow : OpenClaim := { program := "qxb6605295a", sum := "c49a3caf65c591f8dc5f13379927c576891a5bdb3dac48622a160f0962a6c83c", func := "example.com/abatement/abatement/zzlaws_pkg_ubl_b1.FnNewPartyRoundTrip", spec := "fnNewPartyRoundTrip", apart := false }
def FnNewPartyRoundTripSaid : Prop := fnNewPartyRoundTripRow.holds Try.pinned (OpenSpec.ofChange fnNewPartyRoundTripSpec)

/-- ITS FALSE NEIGHBOUR: 'it returns false'. Refute it at one input. -/
def fnNewPartyRoundTripWrong : ChangeSpec := { name := "fnNewPartyRoundTrip", fn := fun _ => fun
  | [d] => { results := [.lit (.bool false)], args := [d] }
  | _ => none }
def FnNewPartyRoundTripWrongFalsely : Prop := fnNewPartyRoundTripRow.holds Try.pinned (OpenSpec.ofChange fnNewPartyRoundTripWrong)

/-- 'zzlaws_pkg_ubl_b1.FnOrListModel': WHATEVER THE INPUT: true; the input reads as it did. -/
def fnOrListModelSpec : ChangeSpec := { name := "fnOrListModel", fn := fun _ => fun
  | [d] => { results := [.lit (.bool true)], args := [d] }
  | _ => none }
def fnOrListModelRow : OpenClaim := { program := "qxb6605295a", sum := "c49a3caf65c591f8dc5f13379927c576891a5bdb3dac48622a160f0962a6c83c", func := "example.com/abatement/abatement/zzlaws_pkg_ubl_b1.FnOrListModel", spec := "fnOrListModel", inPlace := ["internal/abi.NoEscape", "internal/bytealg.MakeNoZero"], apart := false }
def FnOrListModelSaid : Prop := fnOrListModelRow.holds Try.pinned (OpenSpec.ofChange fnOrListModelSpec)

/-- ITS FALSE NEIGHBOUR: 'it returns false'. Refute it at one input. -/
def fnOrListModelWrong : ChangeSpec := { name := "fnOrListModel", fn := fun _ => fun
  | [d] => { results := [.lit (.bool false)], args := [d] }
  | _ => none }
def FnOrListModelWrongFalsely : Prop := fnOrListModelRow.holds Try.pinned (OpenSpec.ofChange fnOrListModelWrong)

/-- 'zzlaws_pkg_ubl_b1.FnOrListCons': WHATEVER THE INPUT: true; the input reads as it did. -/
def fnOrListConsSpec : ChangeSpec := { name := "fnOrListCons", fn := fun _ => fun
  | [d1, d2] => { results := [.lit (.bool true)], args := [d1, d2] }
  | _ => none }
def fnOrListConsRow : OpenClaim := { program := "qxb6605295a", sum := "c49a3caf65c591f8dc5f13379927c576891a5bdb3dac48622a160f0962a6c83c", func := "example.com/abatement/abatement/zzlaws_pkg_ubl_b1.FnOrListCons", spec := "fnOrListCons", inPlace := ["internal/abi.NoEscape", "internal/bytealg.MakeNoZero"], apart := false }
def FnOrListConsSaid : Prop := fnOrListConsRow.holds Try.pinned (OpenSpec.ofChange fnOrListConsSpec)

/-- ITS FALSE NEIGHBOUR: 'it returns false'. Refute it at one input. -/
def fnOrListConsWrong : ChangeSpec := { name := "fnOrListCons", fn := fun _ => fun
  | [d1, d2] => { results := [.lit (.bool false)], args := [d1, d2] }
  | _ => none }
def FnOrListConsWrongFalsely : Prop := fnOrListConsRow.holds Try.pinned (OpenSpec.ofChange fnOrListConsWrong)

end Rows
end Go.Proofs.Qxb6605295a
