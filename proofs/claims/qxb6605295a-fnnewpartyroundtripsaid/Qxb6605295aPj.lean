import Derived.Test.Qxb6605295aRows
import Derived.WalkKit
import Derived.ProofKit
import Derived.Test.Qxb6605295aPh00
import Derived.Test.Qxb6605295aPh01
import Derived.Test.Qxb6605295aPh10
import Derived.Test.Qxb6605295aPh11
import Derived.Test.Qxb6605295aPi
namespace Go.Proofs.Qxb6605295a.newPartyRoundTrip
open Go.Proofs.Qxb6605295a
open Go.ChangeShapes Go.WideShapes Go.ChangeAt Go.RowKit

theorem own : ownKnob Try.prog.godebug = none := by kernel_rfl
theorem laidOut : laidOutB Try.prog = true := by kernel_rfl

theorem walk (s0 s1 s2 s3 s4 s5 s6 s7 s8 s9 s10 s11 s12 : ByteArray) (w : World) :
    Calls Try.prog 3 #[.agg #[.string s0, .string s1, .string s2, .string s3, .string s4, .string s5, .string s6, .string s7, .string s8, .string s9, .string s10, .string s11, .string s12]] w fun e w' => e = .returned (.bool true) ∧ Below w.heap.size w w' := by
  rcases empty_or s1 with rfl | t1
  · rcases empty_or s2 with rfl | t2
    · rcases empty_or s10 with rfl | t10
      · rcases empty_or s11 with rfl | t11
        · rcases empty_or s12 with rfl | t12
          · exact party_000 s0 s3 s4 s5 s6 s7 s8 s9 w 
          · exact party_003 s0 s3 s4 s5 s6 s7 s8 s9 s12 w t12
        · exact party_002 s0 s3 s4 s5 s6 s7 s8 s9 s11 s12 w t11
      · exact party_001 s0 s3 s4 s5 s6 s7 s8 s9 s10 s11 s12 w t10
    · rcases empty_or s10 with rfl | t10
      · rcases empty_or s11 with rfl | t11
        · rcases empty_or s12 with rfl | t12
          · exact party_010 s0 s2 s3 s4 s5 s6 s7 s8 s9 w t2
          · exact party_013 s0 s2 s3 s4 s5 s6 s7 s8 s9 s12 w t2 t12
        · exact party_012 s0 s2 s3 s4 s5 s6 s7 s8 s9 s11 s12 w t2 t11
      · exact party_011 s0 s2 s3 s4 s5 s6 s7 s8 s9 s10 s11 s12 w t2 t10
  · rcases empty_or s2 with rfl | t2
    · rcases empty_or s10 with rfl | t10
      · rcases empty_or s11 with rfl | t11
        · rcases empty_or s12 with rfl | t12
          · exact party_100 s0 s1 s3 s4 s5 s6 s7 s8 s9 w t1
          · exact party_103 s0 s1 s3 s4 s5 s6 s7 s8 s9 s12 w t1 t12
        · exact party_102 s0 s1 s3 s4 s5 s6 s7 s8 s9 s11 s12 w t1 t11
      · exact party_101 s0 s1 s3 s4 s5 s6 s7 s8 s9 s10 s11 s12 w t1 t10
    · rcases empty_or s10 with rfl | t10
      · rcases empty_or s11 with rfl | t11
        · rcases empty_or s12 with rfl | t12
          · exact party_110 s0 s1 s2 s3 s4 s5 s6 s7 s8 s9 w t1 t2
          · exact party_113 s0 s1 s2 s3 s4 s5 s6 s7 s8 s9 s12 w t1 t2 t12
        · exact party_112 s0 s1 s2 s3 s4 s5 s6 s7 s8 s9 s11 s12 w t1 t2 t11
      · exact party_111 s0 s1 s2 s3 s4 s5 s6 s7 s8 s9 s10 s11 s12 w t1 t2 t10

set_option maxRecDepth 100000 in
theorem lifted (os : Os) (started : os.Started) (H : Type) (enc : TypeId × Value → H) :
    ReturnsInHanded {} Try.checked os 3 .any (Rows.fnNewPartyRoundTripSpec.pre6 enc Try.prog Try.f3 Rows.fnNewPartyRoundTripRow.domain false) (Rows.fnNewPartyRoundTripSpec.post enc Try.prog Try.f3 false true false false) := by
  refine returnsInHanded_of_change (C := Try.checked) own started (by kernel_rfl) Try.func3
    (ChangeSpec.witness6 (enc := enc) (C := Try.checked) false ⟨#[], #[.agg #[.string ⟨#[]⟩, .string ⟨#[]⟩, .string ⟨#[]⟩, .string ⟨#[]⟩, .string ⟨#[]⟩, .string ⟨#[]⟩, .string ⟨#[]⟩, .string ⟨#[]⟩, .string ⟨#[]⟩, .string ⟨#[]⟩, .string ⟨#[]⟩, .string ⟨#[]⟩, .string ⟨#[]⟩]], []⟩ 8 (by kernel_rfl) (by kernel_rfl) (by kernel_rfl) (by kernel_rfl)) ?_
  intro W base args ds gs before hval0 hW hcnd _
  have hval : ∀ (j : Nat) t v, Try.f3.params[j]? = some t → args[j]? = some v → Value.okWide Try.prog W .any base t v := hval0
  have hW' := hW
  obtain ⟨p, q, hA0, hV, rfl, hfz, hnd⟩ := hW
  have hA : DataW.TrodAll enc Try.prog W 0 (fun _ => true) true Try.f3.params.toList args.toList ds p := hA0
  rw [Try.params3] at hA hval
  obtain ⟨v0, vs0, d0, ds0, p0, q0, hargs, rfl, rfl, h0, r0⟩ := trodAll_cons hA
  obtain ⟨rfl, rfl, rfl⟩ := trodAll_nil r0
  obtain rfl : args = #[v0] := by cases args; simp_all
  obtain ⟨rfl, rfl⟩ := trodVars_none hV
  have k0 := h0
  have lt0 : ∀ x ∈ p0, x.block < W.heap.size := by obtain ⟨m, hm⟩ := k0; exact DataW.trod_lt m _ _ _ hm
  obtain ⟨s0, s1, s2, s3, s4, s5, s6, s7, s8, s9, s10, s11, s12, rfl⟩ := open_party (hval 0 23 v0 rfl rfl) h0
  clear hA0 hval0
  refine (walk s0 s1 s2 s3 s4 s5 s6 s7 s8 s9 s10 s11 s12 W).mono fun e W' ⟨he, bel⟩ => ?_
  subst he
  exact ⟨_, rfl, _, _, _, [], _, [], hW', trodAll_mk1 (shut_bool Try.underlying4 _), (trodAll_mk1 (Below.trod laidOut (by kernel_rfl) (of_decide_eq_true (by kernel_rfl)) k0 bel lt0)), rfl, bel.frame _, fun h => by cases h⟩

theorem over : Rows.fnNewPartyRoundTripRow.holds Try.pinned (OpenSpec.ofChange Rows.fnNewPartyRoundTripSpec) :=
  OpenClaim.holds_of_wide 3 Try.f3 rfl rfl rfl rfl rfl rfl rfl ⟨rfl, rfl, rfl, rfl, rfl⟩ rfl rfl rfl rfl rfl (by kernel_rfl) Try.func3 (by kernel_rfl)
    (of_decide_eq_true (by kernel_rfl)) (by unfold Func.isWrapper; first | (rw [if_pos (by decide +kernel)]; kernel_rfl) | (rw [if_neg (by decide +kernel)]; exact ⟨rfl, rfl⟩))
    (fun os started H enc _ => lifted os started H enc)

/-- THE STATEMENT -/
theorem proved : Rows.FnNewPartyRoundTripSaid := over
end Go.Proofs.Qxb6605295a.newPartyRoundTrip
