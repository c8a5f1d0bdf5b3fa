import Derived.Test.Qxb6605295aRows
import Derived.WalkKit
import Derived.WalkSpells
import Derived.WalkLawsBesides
import Derived.Test.Qxb6605295aPe00
import Derived.Test.Qxb6605295aPe01
import Derived.Test.Qxb6605295aPe10
import Derived.Test.Qxb6605295aPe11
namespace Go.Proofs.Qxb6605295a
open Go.RowKit

theorem newParty_any (s0 s1 s2 s3 s4 s5 s6 s7 s8 s9 s10 s11 s12 : ByteArray) (w : World) :
    Calls Try.prog 15 #[.agg #[.string s0, .string s1, .string s2, .string s3, .string s4, .string s5, .string s6, .string s7, .string s8, .string s9, .string s10, .string s11, .string s12]] w (NewAt w s0 s1 s2 s3 s4 s5 s6 s7 s8 s9 s10 s11 s12) := by
  rcases empty_or s1 with rfl | t1
  · rcases empty_or s2 with rfl | t2
    · rcases empty_or s10 with rfl | t10
      · rcases empty_or s11 with rfl | t11
        · rcases empty_or s12 with rfl | t12
          · exact newParty_000 s0 s3 s4 s5 s6 s7 s8 s9 w 
          · exact newParty_003 s0 s3 s4 s5 s6 s7 s8 s9 s12 w t12
        · exact newParty_002 s0 s3 s4 s5 s6 s7 s8 s9 s11 s12 w t11
      · exact newParty_001 s0 s3 s4 s5 s6 s7 s8 s9 s10 s11 s12 w t10
    · rcases empty_or s10 with rfl | t10
      · rcases empty_or s11 with rfl | t11
        · rcases empty_or s12 with rfl | t12
          · exact newParty_010 s0 s2 s3 s4 s5 s6 s7 s8 s9 w t2
          · exact newParty_013 s0 s2 s3 s4 s5 s6 s7 s8 s9 s12 w t2 t12
        · exact newParty_012 s0 s2 s3 s4 s5 s6 s7 s8 s9 s11 s12 w t2 t11
      · exact newParty_011 s0 s2 s3 s4 s5 s6 s7 s8 s9 s10 s11 s12 w t2 t10
  · rcases empty_or s2 with rfl | t2
    · rcases empty_or s10 with rfl | t10
      · rcases empty_or s11 with rfl | t11
        · rcases empty_or s12 with rfl | t12
          · exact newParty_100 s0 s1 s3 s4 s5 s6 s7 s8 s9 w t1
          · exact newParty_103 s0 s1 s3 s4 s5 s6 s7 s8 s9 s12 w t1 t12
        · exact newParty_102 s0 s1 s3 s4 s5 s6 s7 s8 s9 s11 s12 w t1 t11
      · exact newParty_101 s0 s1 s3 s4 s5 s6 s7 s8 s9 s10 s11 s12 w t1 t10
    · rcases empty_or s10 with rfl | t10
      · rcases empty_or s11 with rfl | t11
        · rcases empty_or s12 with rfl | t12
          · exact newParty_110 s0 s1 s2 s3 s4 s5 s6 s7 s8 s9 w t1 t2
          · exact newParty_113 s0 s1 s2 s3 s4 s5 s6 s7 s8 s9 s12 w t1 t2 t12
        · exact newParty_112 s0 s1 s2 s3 s4 s5 s6 s7 s8 s9 s11 s12 w t1 t2 t11
      · exact newParty_111 s0 s1 s2 s3 s4 s5 s6 s7 s8 s9 s10 s11 s12 w t1 t2 t10

set_option maxHeartbeats 1000000 in
theorem zzNewParty_any (s0 s1 s2 s3 s4 s5 s6 s7 s8 s9 s10 s11 s12 : ByteArray) (w : World) :
    Calls Try.prog 8 #[.agg #[.string s0, .string s1, .string s2, .string s3, .string s4, .string s5, .string s6, .string s7, .string s8, .string s9, .string s10, .string s11, .string s12]] w (NewAt w s0 s1 s2 s3 s4 s5 s6 s7 s8 s9 s10 s11 s12) := by
  go_enter Try.func8, Try.ntmps8
  go_wp2_with (go_at_call 15; refine (newParty_any _ _ _ _ _ _ _ _ _ _ _ _ _ _).mono ?_; rintro e w1 ⟨tp, lp, cp, rfl, hb, htx, hlg, hcn⟩; obtain ⟨hc, hf⟩ := bcell hb; have hz : w.heap.size + 1 < w1.heap.size := by have := hb.size; simp at this; omega)
  refine bodyPost_ret (v := .agg #[.string s5, .string s4, .string s0, .string s6, .string s7, .string s8, .string s9, .pointer tp, .string s0, .pointer lp, .pointer cp]) (by simp [results, Try.results8, go_sem, hc]) rfl ⟨tp, lp, cp, rfl, ?_, ?_, ?_, ?_⟩
  · refine Below.setCell ?_ (Nat.le_succ _) _
    refine Below.setCell ?_ (Nat.le_succ _) _
    refine Below.setCell ?_ (Nat.le_succ _) _
    refine Below.setCell ?_ (Nat.le_succ _) _
    refine Below.setCell ?_ (Nat.le_succ _) _
    refine Below.setCell ?_ (Nat.le_succ _) _
    refine Below.setCell ?_ (Nat.le_succ _) _
    refine Below.setCell ?_ (Nat.le_succ _) _
    refine Below.setCell ?_ (Nat.le_succ _) _
    refine Below.setCell ?_ (Nat.le_succ _) _
    refine Below.setCell ?_ (Nat.le_succ _) _
    exact (below_more (below_more (Below.refl _ _) _) _).trans (hb.mono (by simp; omega))
  · refine TaxAt.mono (B := w.heap.size + 1 + 1) ?_ (by omega)
    refine TaxAt.setCell ?_ (by simp) _
    refine TaxAt.setCell ?_ (by simp) _
    refine TaxAt.setCell ?_ (by simp) _
    refine TaxAt.setCell ?_ (by simp) _
    refine TaxAt.setCell ?_ (by simp) _
    refine TaxAt.setCell ?_ (by simp) _
    refine TaxAt.setCell ?_ (by simp) _
    refine TaxAt.setCell ?_ (by simp) _
    refine TaxAt.setCell ?_ (by simp) _
    refine TaxAt.setCell ?_ (by simp) _
    refine TaxAt.setCell ?_ (by simp) _
    simpa using htx
  · refine LegAt.mono (B := w.heap.size + 1 + 1) ?_ (by omega)
    refine LegAt.setCell ?_ (by simp) _
    refine LegAt.setCell ?_ (by simp) _
    refine LegAt.setCell ?_ (by simp) _
    refine LegAt.setCell ?_ (by simp) _
    refine LegAt.setCell ?_ (by simp) _
    refine LegAt.setCell ?_ (by simp) _
    refine LegAt.setCell ?_ (by simp) _
    refine LegAt.setCell ?_ (by simp) _
    refine LegAt.setCell ?_ (by simp) _
    refine LegAt.setCell ?_ (by simp) _
    refine LegAt.setCell ?_ (by simp) _
    simpa using hlg
  · refine ConAt.mono (B := w.heap.size + 1 + 1) ?_ (by omega)
    refine ConAt.setCell ?_ (by simp) _
    refine ConAt.setCell ?_ (by simp) _
    refine ConAt.setCell ?_ (by simp) _
    refine ConAt.setCell ?_ (by simp) _
    refine ConAt.setCell ?_ (by simp) _
    refine ConAt.setCell ?_ (by simp) _
    refine ConAt.setCell ?_ (by simp) _
    refine ConAt.setCell ?_ (by simp) _
    refine ConAt.setCell ?_ (by simp) _
    refine ConAt.setCell ?_ (by simp) _
    refine ConAt.setCell ?_ (by simp) _
    simpa using hcn

end Go.Proofs.Qxb6605295a
