import Derived.Test.Qxb6605375aRows
import Derived.WalkKit
import Derived.ProofKit
import Derived.OpenShut
import Derived.Test.Qxb6605375aCg
import Derived.Test.Qxb6605375aCh
import Derived.Test.Qxb6605375aCi
import Derived.Test.Qxb6605375aCj
import Derived.Test.Qxb6605375aCk
namespace Go.Proofs.Qxb6605375a.cutIsKept
open Go.Proofs.Qxb6605375a
open Go.ChangeShapes Go.WideShapes Go.ChangeAt Go.RowKit

theorem own : ownKnob Try.prog.godebug = none := by kernel_rfl
theorem laidOut : laidOutB Try.prog = true := by kernel_rfl

theorem walk (avg seed small large : Int) (gs : List Int) (hgs : gs.length = 256) (a5 a6 : Option Addr) (zs ts : List Int) (cap5 cap6 : Nat) (w : World)
    (h5 : BAt w a5 zs) (n5 : a5 = none → zs.length = 0) (b5 : ∀ i, 0 ≤ zs.getD i 0 ∧ zs.getD i 0 ≤ 255) (h6 : BAt w a6 ts) (n6 : a6 = none → ts.length = 0) (b6 : ∀ i, 0 ≤ ts.getD i 0 ∧ ts.getD i 0 ≤ 255) :
    Calls Try.prog 3 #[.int .i64 avg, .int .u32 seed, .agg (gearV gs), .int .u64 small, .int .u64 large, .slice a5 zs.length cap5, .slice a6 ts.length cap6] w fun e w' => e = .returned (.bool true) ∧ Below w.heap.size w w' := by
  cases a5 with
  | none =>
    cases a6 with
    | none => exact law_nn avg seed small large gs hgs zs ts cap5 cap6 w h5 b5 h6 b6 (n5 rfl) (n6 rfl)
    | some ad6 => exact law_ns avg seed small large gs hgs ad6 zs ts cap5 cap6 w h5 b5 h6 b6 (n5 rfl)
  | some ad5 =>
    cases a6 with
    | none => exact law_sn avg seed small large gs hgs ad5 zs ts cap5 cap6 w h5 b5 h6 b6 (n6 rfl)
    | some ad6 => exact law_ss avg seed small large gs hgs ad5 ad6 zs ts cap5 cap6 w h5 b5 h6 b6

set_option maxRecDepth 100000 in
theorem lifted (os : Os) (started : os.Started) (H : Type) (enc : TypeId × Value → H) :
    ReturnsInHanded {} Try.checked os 3 .any (Rows.fnCutIsKeptWhenBytesPastItChangeSpec.pre6 enc Try.prog Try.f3 Rows.fnCutIsKeptWhenBytesPastItChangeRow.domain false) (Rows.fnCutIsKeptWhenBytesPastItChangeSpec.post enc Try.prog Try.f3 false true false false) := by
  refine returnsInHanded_of_change (C := Try.checked) own started (by kernel_rfl) Try.func3
    (ChangeSpec.witness6 (enc := enc) (C := Try.checked) false ⟨#[], #[.int .i64 0, .int .u32 0, .agg (Array.replicate 256 (.int .u64 0)), .int .u64 0, .int .u64 0, .slice none 0 0, .slice none 0 0], []⟩ 8 (by kernel_rfl) (by kernel_rfl) (by kernel_rfl) (by kernel_rfl)) ?_
  intro W base args ds gs' before hval0 hW hcnd _
  have hval : ∀ (j : Nat) t v, Try.f3.params[j]? = some t → args[j]? = some v → Value.okWide Try.prog W .any base t v := hval0
  have hW' := hW
  obtain ⟨p, q, hA0, hV, rfl, hfz, hnd⟩ := hW
  have hA : DataW.TrodAll enc Try.prog W 0 (fun _ => true) true Try.f3.params.toList args.toList ds p := hA0
  rw [Try.params3] at hA hval
  obtain ⟨v0, vs0, d0, ds0, p0, q0, hargs, rfl, rfl, h0, r0⟩ := trodAll_cons hA
  obtain ⟨v1, vs1, d1, ds1, p1, q1, rfl, rfl, rfl, h1, r1⟩ := trodAll_cons r0
  obtain ⟨v2, vs2, d2, ds2, p2, q2, rfl, rfl, rfl, h2, r2⟩ := trodAll_cons r1
  obtain ⟨v3, vs3, d3, ds3, p3, q3, rfl, rfl, rfl, h3, r3⟩ := trodAll_cons r2
  obtain ⟨v4, vs4, d4, ds4, p4, q4, rfl, rfl, rfl, h4, r4⟩ := trodAll_cons r3
  obtain ⟨v5, vs5, d5, ds5, p5, q5, rfl, rfl, rfl, h5, r5⟩ := trodAll_cons r4
  obtain ⟨v6, vs6, d6, ds6, p6, q6, rfl, rfl, rfl, h6, r6⟩ := trodAll_cons r5
  obtain ⟨rfl, rfl, rfl⟩ := trodAll_nil r6
  obtain rfl : args = #[v0, v1, v2, v3, v4, v5, v6] := by cases args; simp_all
  obtain ⟨rfl, rfl⟩ := trodVars_none hV
  obtain ⟨avg, rfl, rfl, rfl, w0⟩ := open_int Try.underlying2 (hval 0 2 v0 rfl rfl) h0
  obtain ⟨seed, rfl, rfl, rfl, w1⟩ := open_int Try.underlying22 (hval 1 22 v1 rfl rfl) h1
  have k2 := h2
  have lt2 : ∀ x ∈ p2, x.block < W.heap.size := by obtain ⟨m, hm⟩ := k2; exact DataW.trod_lt m _ _ _ hm
  obtain ⟨gs, hgs, rfl⟩ := open_gear (hval 2 24 v2 rfl rfl) h2
  obtain ⟨small, rfl, rfl, rfl, w3⟩ := open_int Try.underlying23 (hval 3 23 v3 rfl rfl) h3
  obtain ⟨large, rfl, rfl, rfl, w4⟩ := open_int Try.underlying23 (hval 4 23 v4 rfl rfl) h4
  obtain ⟨a5, len5, cap5, rfl⟩ := okWide_slice Try.underlying25 (hval 5 25 v5 rfl rfl)
  have k5 := h5
  have lt5 : ∀ x ∈ p5, x.block < W.heap.size := by obtain ⟨m, hm⟩ := k5; exact DataW.trod_lt m _ _ _ hm
  obtain ⟨zs, rfl, hb5, n5, b5⟩ := open_bytes h5
  obtain ⟨a6, len6, cap6, rfl⟩ := okWide_slice Try.underlying25 (hval 6 25 v6 rfl rfl)
  have k6 := h6
  have lt6 : ∀ x ∈ p6, x.block < W.heap.size := by obtain ⟨m, hm⟩ := k6; exact DataW.trod_lt m _ _ _ hm
  obtain ⟨ts, rfl, hb6, n6, b6⟩ := open_bytes h6
  clear hA0 hval0
  refine (walk avg seed small large gs hgs a5 a6 zs ts cap5 cap6 W hb5 n5 b5 hb6 n6 b6).mono fun e W' ⟨he, bel⟩ => ?_
  subst he
  exact ⟨_, rfl, _, _, _, [], _, [], hW', trodAll_mk1 (shut_bool Try.underlying4 _), (trodAll_cons_mk (shut_int Try.underlying2 w0) (trodAll_cons_mk (shut_int Try.underlying22 w1) (trodAll_cons_mk (Below.trod laidOut (by kernel_rfl) (of_decide_eq_true (by kernel_rfl)) k2 bel lt2) (trodAll_cons_mk (shut_int Try.underlying23 w3) (trodAll_cons_mk (shut_int Try.underlying23 w4) (trodAll_cons_mk (Below.trod laidOut (by kernel_rfl) (of_decide_eq_true (by kernel_rfl)) k5 bel lt5) (trodAll_cons_mk (Below.trod laidOut (by kernel_rfl) (of_decide_eq_true (by kernel_rfl)) k6 bel lt6) trodAll_mk0))))))), rfl, bel.frame _, fun h => by cases h⟩

theorem over : Rows.fnCutIsKeptWhenBytesPastItChangeRow.holds Try.pinned (OpenSpec.ofChange Rows.fnCutIsKeptWhenBytesPastItChangeSpec) :=
  OpenClaim.holds_of_wide 3 Try.f3 rfl rfl rfl rfl rfl rfl rfl ⟨rfl, rfl, rfl, rfl, rfl⟩ rfl rfl rfl rfl rfl (by kernel_rfl) Try.func3 (by kernel_rfl)
    (of_decide_eq_true (by kernel_rfl)) (by unfold Func.isWrapper; first | (rw [if_pos (by decide +kernel)]; kernel_rfl) | (rw [if_neg (by decide +kernel)]; exact ⟨rfl, rfl⟩))
    (fun os started H enc _ => lifted os started H enc)

/-- THE STATEMENT -/
theorem proved : Rows.FnCutIsKeptWhenBytesPastItChangeSaid := over
end Go.Proofs.Qxb6605375a.cutIsKept
