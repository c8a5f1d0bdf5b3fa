import Derived.Test.Qxb6605295aRows
import Derived.WalkKit
import Derived.WalkSpells
import Derived.WalkLawsBesides
import Derived.Test.Qxb6605295aPd
namespace Go.Proofs.Qxb6605295a
open Go.RowKit

set_option maxHeartbeats 1000000 in
theorem newParty_100 (s0 s1 s3 s4 s5 s6 s7 s8 s9 : ByteArray) (w : World) (t1 : s1.toList.isEmpty = false) :
    Calls Try.prog 15 #[.agg #[.string s0, .string s1, .string ⟨#[]⟩, .string s3, .string s4, .string s5, .string s6, .string s7, .string s8, .string s9, .string ⟨#[]⟩, .string ⟨#[]⟩, .string ⟨#[]⟩]] w (NewAt w s0 s1 ⟨#[]⟩ s3 s4 s5 s6 s7 s8 s9 ⟨#[]⟩ ⟨#[]⟩ ⟨#[]⟩) := by
  go_enter Try.func15, Try.ntmps15
  go_wp2
  refine bodyPost_ret (v := .agg #[.string s5, .string s4, .string s0, .string s6, .string s7, .string s8, .string s9, .pointer (some ⟨w.heap.size + 1 + 1 + 1, 0, none⟩), .string s0, .pointer none, .pointer none]) (by simp [results, Try.results15, go_sem]) rfl ⟨_, _, _, rfl, below_more (below_more (below_more (below_more (Below.refl _ _) _) _) _) _, ?_, ?_, ?_⟩
  · refine Or.inr ⟨t1, _, rfl, ?_⟩
    refine ⟨by omega, by simp; try omega, fun i x hx => ?_⟩
    match i, x, hx with
    | 0, _, hx => simp at hx; subst hx; go_simp
    | 1, _, hx => simp at hx; subst hx; go_simp
  · exact Or.inl ⟨rfl, rfl⟩
  · exact Or.inl ⟨rfl, rfl, rfl, rfl⟩
set_option maxHeartbeats 1000000 in
theorem newParty_101 (s0 s1 s3 s4 s5 s6 s7 s8 s9 s10 s11 s12 : ByteArray) (w : World) (t1 : s1.toList.isEmpty = false) (t10 : s10.toList.isEmpty = false) :
    Calls Try.prog 15 #[.agg #[.string s0, .string s1, .string ⟨#[]⟩, .string s3, .string s4, .string s5, .string s6, .string s7, .string s8, .string s9, .string s10, .string s11, .string s12]] w (NewAt w s0 s1 ⟨#[]⟩ s3 s4 s5 s6 s7 s8 s9 s10 s11 s12) := by
  go_enter Try.func15, Try.ntmps15
  go_wp2
  refine bodyPost_ret (v := .agg #[.string s5, .string s4, .string s0, .string s6, .string s7, .string s8, .string s9, .pointer (some ⟨w.heap.size + 1 + 1 + 1, 0, none⟩), .string s0, .pointer none, .pointer (some ⟨w.heap.size + 1 + 1 + 1 + 1, 0, none⟩)]) (by simp [results, Try.results15, go_sem]) rfl ⟨_, _, _, rfl, below_more (below_more (below_more (below_more (below_more (Below.refl _ _) _) _) _) _) _, ?_, ?_, ?_⟩
  · refine Or.inr ⟨t1, _, rfl, ?_⟩
    refine ⟨by omega, by simp; try omega, fun i x hx => ?_⟩
    match i, x, hx with
    | 0, _, hx => simp at hx; subst hx; go_simp
    | 1, _, hx => simp at hx; subst hx; go_simp
  · exact Or.inl ⟨rfl, rfl⟩
  · refine Or.inr ⟨Or.inl t10, _, rfl, ?_⟩
    refine ⟨by omega, by simp; try omega, fun i x hx => ?_⟩
    match i, x, hx with
    | 0, _, hx => simp at hx; subst hx; go_simp
    | 1, _, hx => simp at hx; subst hx; go_simp
    | 2, _, hx => simp at hx; subst hx; go_simp
set_option maxHeartbeats 1000000 in
theorem newParty_102 (s0 s1 s3 s4 s5 s6 s7 s8 s9 s11 s12 : ByteArray) (w : World) (t1 : s1.toList.isEmpty = false) (t11 : s11.toList.isEmpty = false) :
    Calls Try.prog 15 #[.agg #[.string s0, .string s1, .string ⟨#[]⟩, .string s3, .string s4, .string s5, .string s6, .string s7, .string s8, .string s9, .string ⟨#[]⟩, .string s11, .string s12]] w (NewAt w s0 s1 ⟨#[]⟩ s3 s4 s5 s6 s7 s8 s9 ⟨#[]⟩ s11 s12) := by
  go_enter Try.func15, Try.ntmps15
  go_wp2
  refine bodyPost_ret (v := .agg #[.string s5, .string s4, .string s0, .string s6, .string s7, .string s8, .string s9, .pointer (some ⟨w.heap.size + 1 + 1 + 1, 0, none⟩), .string s0, .pointer none, .pointer (some ⟨w.heap.size + 1 + 1 + 1 + 1, 0, none⟩)]) (by simp [results, Try.results15, go_sem]) rfl ⟨_, _, _, rfl, below_more (below_more (below_more (below_more (below_more (Below.refl _ _) _) _) _) _) _, ?_, ?_, ?_⟩
  · refine Or.inr ⟨t1, _, rfl, ?_⟩
    refine ⟨by omega, by simp; try omega, fun i x hx => ?_⟩
    match i, x, hx with
    | 0, _, hx => simp at hx; subst hx; go_simp
    | 1, _, hx => simp at hx; subst hx; go_simp
  · exact Or.inl ⟨rfl, rfl⟩
  · refine Or.inr ⟨Or.inr (Or.inl ⟨rfl, t11⟩), _, rfl, ?_⟩
    refine ⟨by omega, by simp; try omega, fun i x hx => ?_⟩
    match i, x, hx with
    | 0, _, hx => simp at hx; subst hx; go_simp
    | 1, _, hx => simp at hx; subst hx; go_simp
    | 2, _, hx => simp at hx; subst hx; go_simp
set_option maxHeartbeats 1000000 in
theorem newParty_103 (s0 s1 s3 s4 s5 s6 s7 s8 s9 s12 : ByteArray) (w : World) (t1 : s1.toList.isEmpty = false) (t12 : s12.toList.isEmpty = false) :
    Calls Try.prog 15 #[.agg #[.string s0, .string s1, .string ⟨#[]⟩, .string s3, .string s4, .string s5, .string s6, .string s7, .string s8, .string s9, .string ⟨#[]⟩, .string ⟨#[]⟩, .string s12]] w (NewAt w s0 s1 ⟨#[]⟩ s3 s4 s5 s6 s7 s8 s9 ⟨#[]⟩ ⟨#[]⟩ s12) := by
  go_enter Try.func15, Try.ntmps15
  go_wp2
  refine bodyPost_ret (v := .agg #[.string s5, .string s4, .string s0, .string s6, .string s7, .string s8, .string s9, .pointer (some ⟨w.heap.size + 1 + 1 + 1, 0, none⟩), .string s0, .pointer none, .pointer (some ⟨w.heap.size + 1 + 1 + 1 + 1, 0, none⟩)]) (by simp [results, Try.results15, go_sem]) rfl ⟨_, _, _, rfl, below_more (below_more (below_more (below_more (below_more (Below.refl _ _) _) _) _) _) _, ?_, ?_, ?_⟩
  · refine Or.inr ⟨t1, _, rfl, ?_⟩
    refine ⟨by omega, by simp; try omega, fun i x hx => ?_⟩
    match i, x, hx with
    | 0, _, hx => simp at hx; subst hx; go_simp
    | 1, _, hx => simp at hx; subst hx; go_simp
  · exact Or.inl ⟨rfl, rfl⟩
  · refine Or.inr ⟨Or.inr (Or.inr ⟨rfl, rfl, t12⟩), _, rfl, ?_⟩
    refine ⟨by omega, by simp; try omega, fun i x hx => ?_⟩
    match i, x, hx with
    | 0, _, hx => simp at hx; subst hx; go_simp
    | 1, _, hx => simp at hx; subst hx; go_simp
    | 2, _, hx => simp at hx; subst hx; go_simp

end Go.Proofs.Qxb6605295a
