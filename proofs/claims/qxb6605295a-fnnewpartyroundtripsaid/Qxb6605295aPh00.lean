import Derived.Test.Qxb6605295aRows
import Derived.WalkKit
import Derived.WalkSpells
import Derived.WalkLawsBesides
import Derived.Test.Qxb6605295aPa
import Derived.Test.Qxb6605295aPb
import Derived.Test.Qxb6605295aPc
import Derived.Test.Qxb6605295aPf
import Derived.Test.Qxb6605295aPg
namespace Go.Proofs.Qxb6605295a
open Go.RowKit

set_option maxHeartbeats 4000000 in
theorem party_000 (s0 s3 s4 s5 s6 s7 s8 s9 : ByteArray) (w : World)  :
    Calls Try.prog 3 #[.agg #[.string s0, .string ⟨#[]⟩, .string ⟨#[]⟩, .string s3, .string s4, .string s5, .string s6, .string s7, .string s8, .string s9, .string ⟨#[]⟩, .string ⟨#[]⟩, .string ⟨#[]⟩]] w fun e w' => e = .returned (.bool true) ∧ Below w.heap.size w w' := by
  go_enter Try.func3, Try.ntmps3
  go_wp2_with fail
  refine (bytes_any s0 ⟨#[]⟩ ⟨#[]⟩ s3 s4 s5 s6 s7 s8 s9 ⟨#[]⟩ ⟨#[]⟩ ⟨#[]⟩ _).mono ?_
  rintro e w1 ⟨b1, rfl, hb1⟩
  have hq1 : ∀ o, w1.cell? ⟨w.heap.size, o, none⟩ = (#[.string s0, .string ⟨#[]⟩, .string ⟨#[]⟩, .string s3, .string s4, .string s5, .string s6, .string s7, .string s8, .string s9, .string ⟨#[]⟩, .string ⟨#[]⟩, .string ⟨#[]⟩] : Array Value)[o]? := fun o => (hb1.cell (by simp)).trans (by simp)
  have hz1 : w.heap.size < w1.heap.size := by have := hb1.size; simp at this; omega
  have HB1 : Hid (Below w.heap.size w w1) := (below_more (Below.refl _ _) _).trans (hb1.mono (by simp))
  clear hb1
  cases b1
  · go_wp2
    go_ret
    exact ⟨rfl, HB1.out⟩
  go_wp2_with fail
  refine (fits_any s0 ⟨#[]⟩ ⟨#[]⟩ s3 s4 s5 s6 s7 s8 s9 ⟨#[]⟩ ⟨#[]⟩ ⟨#[]⟩ _).mono ?_
  rintro e w2 ⟨b2, rfl, hb2⟩
  have hq2 : ∀ o, w2.cell? ⟨w.heap.size, o, none⟩ = (#[.string s0, .string ⟨#[]⟩, .string ⟨#[]⟩, .string s3, .string s4, .string s5, .string s6, .string s7, .string s8, .string s9, .string ⟨#[]⟩, .string ⟨#[]⟩, .string ⟨#[]⟩] : Array Value)[o]? := fun o => (hb2.cell hz1).trans (hq1 o)
  have hz2 : w.heap.size < w2.heap.size := by have := hb2.size; omega
  have HB2 : Hid (Below w.heap.size w w2) := HB1.out.trans (hb2.mono (by omega))
  clear hb2 hq1 hz1 HB1
  cases b2
  · go_wp2
    go_ret
    exact ⟨rfl, HB2.out⟩
  go_wp2_with fail
  refine (toParty_any s0 ⟨#[]⟩ ⟨#[]⟩ s3 s4 s5 s6 s7 s8 s9 ⟨#[]⟩ ⟨#[]⟩ ⟨#[]⟩ _).mono ?_
  rintro e w3 ⟨rfl, hb3⟩
  have hq3 : ∀ o, w3.cell? ⟨w.heap.size, o, none⟩ = (#[.string s0, .string ⟨#[]⟩, .string ⟨#[]⟩, .string s3, .string s4, .string s5, .string s6, .string s7, .string s8, .string s9, .string ⟨#[]⟩, .string ⟨#[]⟩, .string ⟨#[]⟩] : Array Value)[o]? := fun o => (hb3.cell hz2).trans (hq2 o)
  have hz3 : w.heap.size < w3.heap.size := by have := hb3.size; omega
  have HB3 : Hid (Below w.heap.size w w3) := HB2.out.trans (hb3.mono (by omega))
  clear hb3 hq2 hz2 HB2
  go_wp2_with fail
  refine (zzNewParty_any s0 ⟨#[]⟩ ⟨#[]⟩ s3 s4 s5 s6 s7 s8 s9 ⟨#[]⟩ ⟨#[]⟩ ⟨#[]⟩ _).mono ?_
  rintro e w4 ⟨tp, lp, cp, rfl, hb4, htx, hlg, hcn⟩
  have hq4 : ∀ o, w4.cell? ⟨w.heap.size, o, none⟩ = (#[.string s0, .string ⟨#[]⟩, .string ⟨#[]⟩, .string s3, .string s4, .string s5, .string s6, .string s7, .string s8, .string s9, .string ⟨#[]⟩, .string ⟨#[]⟩, .string ⟨#[]⟩] : Array Value)[o]? := fun o => (hb4.cell hz3).trans (hq3 o)
  have hz4 : w.heap.size < w4.heap.size := by have := hb4.size; omega
  have HB4 : Hid (Below w.heap.size w w4) := HB3.out.trans (hb4.mono (by omega))
  have hz41 : w.heap.size < w4.heap.size + 1 := by omega
  have hz42 : w.heap.size < w4.heap.size + 1 + 1 := by omega
  clear hb4 hq3 hz3 HB3
  obtain rfl := TaxAt.none htx
  clear htx
  obtain rfl := LegAt.none hlg
  clear hlg
  obtain rfl := ConAt.none hcn
  clear hcn
  go_wp2
  go_ret
  exact ⟨rfl, below_three HB4.out _ _ _⟩

set_option maxHeartbeats 4000000 in
theorem party_001 (s0 s3 s4 s5 s6 s7 s8 s9 s10 s11 s12 : ByteArray) (w : World) (t10 : s10.toList.isEmpty = false) :
    Calls Try.prog 3 #[.agg #[.string s0, .string ⟨#[]⟩, .string ⟨#[]⟩, .string s3, .string s4, .string s5, .string s6, .string s7, .string s8, .string s9, .string s10, .string s11, .string s12]] w fun e w' => e = .returned (.bool true) ∧ Below w.heap.size w w' := by
  go_enter Try.func3, Try.ntmps3
  go_wp2_with fail
  refine (bytes_any s0 ⟨#[]⟩ ⟨#[]⟩ s3 s4 s5 s6 s7 s8 s9 s10 s11 s12 _).mono ?_
  rintro e w1 ⟨b1, rfl, hb1⟩
  have hq1 : ∀ o, w1.cell? ⟨w.heap.size, o, none⟩ = (#[.string s0, .string ⟨#[]⟩, .string ⟨#[]⟩, .string s3, .string s4, .string s5, .string s6, .string s7, .string s8, .string s9, .string s10, .string s11, .string s12] : Array Value)[o]? := fun o => (hb1.cell (by simp)).trans (by simp)
  have hz1 : w.heap.size < w1.heap.size := by have := hb1.size; simp at this; omega
  have HB1 : Hid (Below w.heap.size w w1) := (below_more (Below.refl _ _) _).trans (hb1.mono (by simp))
  clear hb1
  cases b1
  · go_wp2
    go_ret
    exact ⟨rfl, HB1.out⟩
  go_wp2_with fail
  refine (fits_any s0 ⟨#[]⟩ ⟨#[]⟩ s3 s4 s5 s6 s7 s8 s9 s10 s11 s12 _).mono ?_
  rintro e w2 ⟨b2, rfl, hb2⟩
  have hq2 : ∀ o, w2.cell? ⟨w.heap.size, o, none⟩ = (#[.string s0, .string ⟨#[]⟩, .string ⟨#[]⟩, .string s3, .string s4, .string s5, .string s6, .string s7, .string s8, .string s9, .string s10, .string s11, .string s12] : Array Value)[o]? := fun o => (hb2.cell hz1).trans (hq1 o)
  have hz2 : w.heap.size < w2.heap.size := by have := hb2.size; omega
  have HB2 : Hid (Below w.heap.size w w2) := HB1.out.trans (hb2.mono (by omega))
  clear hb2 hq1 hz1 HB1
  cases b2
  · go_wp2
    go_ret
    exact ⟨rfl, HB2.out⟩
  go_wp2_with fail
  refine (toParty_any s0 ⟨#[]⟩ ⟨#[]⟩ s3 s4 s5 s6 s7 s8 s9 s10 s11 s12 _).mono ?_
  rintro e w3 ⟨rfl, hb3⟩
  have hq3 : ∀ o, w3.cell? ⟨w.heap.size, o, none⟩ = (#[.string s0, .string ⟨#[]⟩, .string ⟨#[]⟩, .string s3, .string s4, .string s5, .string s6, .string s7, .string s8, .string s9, .string s10, .string s11, .string s12] : Array Value)[o]? := fun o => (hb3.cell hz2).trans (hq2 o)
  have hz3 : w.heap.size < w3.heap.size := by have := hb3.size; omega
  have HB3 : Hid (Below w.heap.size w w3) := HB2.out.trans (hb3.mono (by omega))
  clear hb3 hq2 hz2 HB2
  go_wp2_with fail
  refine (zzNewParty_any s0 ⟨#[]⟩ ⟨#[]⟩ s3 s4 s5 s6 s7 s8 s9 s10 s11 s12 _).mono ?_
  rintro e w4 ⟨tp, lp, cp, rfl, hb4, htx, hlg, hcn⟩
  have hq4 : ∀ o, w4.cell? ⟨w.heap.size, o, none⟩ = (#[.string s0, .string ⟨#[]⟩, .string ⟨#[]⟩, .string s3, .string s4, .string s5, .string s6, .string s7, .string s8, .string s9, .string s10, .string s11, .string s12] : Array Value)[o]? := fun o => (hb4.cell hz3).trans (hq3 o)
  have hz4 : w.heap.size < w4.heap.size := by have := hb4.size; omega
  have HB4 : Hid (Below w.heap.size w w4) := HB3.out.trans (hb4.mono (by omega))
  have hz41 : w.heap.size < w4.heap.size + 1 := by omega
  have hz42 : w.heap.size < w4.heap.size + 1 + 1 := by omega
  clear hb4 hq3 hz3 HB3
  obtain rfl := TaxAt.none htx
  clear htx
  obtain rfl := LegAt.none hlg
  clear hlg
  obtain ⟨cb, rfl, hcb, hcc⟩ := ConAt.some hcn (Or.inl t10)
  clear hcn
  go_wp2
  go_ret
  exact ⟨rfl, below_three HB4.out _ _ _⟩

set_option maxHeartbeats 4000000 in
theorem party_002 (s0 s3 s4 s5 s6 s7 s8 s9 s11 s12 : ByteArray) (w : World) (t11 : s11.toList.isEmpty = false) :
    Calls Try.prog 3 #[.agg #[.string s0, .string ⟨#[]⟩, .string ⟨#[]⟩, .string s3, .string s4, .string s5, .string s6, .string s7, .string s8, .string s9, .string ⟨#[]⟩, .string s11, .string s12]] w fun e w' => e = .returned (.bool true) ∧ Below w.heap.size w w' := by
  go_enter Try.func3, Try.ntmps3
  go_wp2_with fail
  refine (bytes_any s0 ⟨#[]⟩ ⟨#[]⟩ s3 s4 s5 s6 s7 s8 s9 ⟨#[]⟩ s11 s12 _).mono ?_
  rintro e w1 ⟨b1, rfl, hb1⟩
  have hq1 : ∀ o, w1.cell? ⟨w.heap.size, o, none⟩ = (#[.string s0, .string ⟨#[]⟩, .string ⟨#[]⟩, .string s3, .string s4, .string s5, .string s6, .string s7, .string s8, .string s9, .string ⟨#[]⟩, .string s11, .string s12] : Array Value)[o]? := fun o => (hb1.cell (by simp)).trans (by simp)
  have hz1 : w.heap.size < w1.heap.size := by have := hb1.size; simp at this; omega
  have HB1 : Hid (Below w.heap.size w w1) := (below_more (Below.refl _ _) _).trans (hb1.mono (by simp))
  clear hb1
  cases b1
  · go_wp2
    go_ret
    exact ⟨rfl, HB1.out⟩
  go_wp2_with fail
  refine (fits_any s0 ⟨#[]⟩ ⟨#[]⟩ s3 s4 s5 s6 s7 s8 s9 ⟨#[]⟩ s11 s12 _).mono ?_
  rintro e w2 ⟨b2, rfl, hb2⟩
  have hq2 : ∀ o, w2.cell? ⟨w.heap.size, o, none⟩ = (#[.string s0, .string ⟨#[]⟩, .string ⟨#[]⟩, .string s3, .string s4, .string s5, .string s6, .string s7, .string s8, .string s9, .string ⟨#[]⟩, .string s11, .string s12] : Array Value)[o]? := fun o => (hb2.cell hz1).trans (hq1 o)
  have hz2 : w.heap.size < w2.heap.size := by have := hb2.size; omega
  have HB2 : Hid (Below w.heap.size w w2) := HB1.out.trans (hb2.mono (by omega))
  clear hb2 hq1 hz1 HB1
  cases b2
  · go_wp2
    go_ret
    exact ⟨rfl, HB2.out⟩
  go_wp2_with fail
  refine (toParty_any s0 ⟨#[]⟩ ⟨#[]⟩ s3 s4 s5 s6 s7 s8 s9 ⟨#[]⟩ s11 s12 _).mono ?_
  rintro e w3 ⟨rfl, hb3⟩
  have hq3 : ∀ o, w3.cell? ⟨w.heap.size, o, none⟩ = (#[.string s0, .string ⟨#[]⟩, .string ⟨#[]⟩, .string s3, .string s4, .string s5, .string s6, .string s7, .string s8, .string s9, .string ⟨#[]⟩, .string s11, .string s12] : Array Value)[o]? := fun o => (hb3.cell hz2).trans (hq2 o)
  have hz3 : w.heap.size < w3.heap.size := by have := hb3.size; omega
  have HB3 : Hid (Below w.heap.size w w3) := HB2.out.trans (hb3.mono (by omega))
  clear hb3 hq2 hz2 HB2
  go_wp2_with fail
  refine (zzNewParty_any s0 ⟨#[]⟩ ⟨#[]⟩ s3 s4 s5 s6 s7 s8 s9 ⟨#[]⟩ s11 s12 _).mono ?_
  rintro e w4 ⟨tp, lp, cp, rfl, hb4, htx, hlg, hcn⟩
  have hq4 : ∀ o, w4.cell? ⟨w.heap.size, o, none⟩ = (#[.string s0, .string ⟨#[]⟩, .string ⟨#[]⟩, .string s3, .string s4, .string s5, .string s6, .string s7, .string s8, .string s9, .string ⟨#[]⟩, .string s11, .string s12] : Array Value)[o]? := fun o => (hb4.cell hz3).trans (hq3 o)
  have hz4 : w.heap.size < w4.heap.size := by have := hb4.size; omega
  have HB4 : Hid (Below w.heap.size w w4) := HB3.out.trans (hb4.mono (by omega))
  have hz41 : w.heap.size < w4.heap.size + 1 := by omega
  have hz42 : w.heap.size < w4.heap.size + 1 + 1 := by omega
  clear hb4 hq3 hz3 HB3
  obtain rfl := TaxAt.none htx
  clear htx
  obtain rfl := LegAt.none hlg
  clear hlg
  obtain ⟨cb, rfl, hcb, hcc⟩ := ConAt.some hcn (Or.inr (Or.inl t11))
  clear hcn
  go_wp2
  go_ret
  exact ⟨rfl, below_three HB4.out _ _ _⟩

set_option maxHeartbeats 4000000 in
theorem party_003 (s0 s3 s4 s5 s6 s7 s8 s9 s12 : ByteArray) (w : World) (t12 : s12.toList.isEmpty = false) :
    Calls Try.prog 3 #[.agg #[.string s0, .string ⟨#[]⟩, .string ⟨#[]⟩, .string s3, .string s4, .string s5, .string s6, .string s7, .string s8, .string s9, .string ⟨#[]⟩, .string ⟨#[]⟩, .string s12]] w fun e w' => e = .returned (.bool true) ∧ Below w.heap.size w w' := by
  go_enter Try.func3, Try.ntmps3
  go_wp2_with fail
  refine (bytes_any s0 ⟨#[]⟩ ⟨#[]⟩ s3 s4 s5 s6 s7 s8 s9 ⟨#[]⟩ ⟨#[]⟩ s12 _).mono ?_
  rintro e w1 ⟨b1, rfl, hb1⟩
  have hq1 : ∀ o, w1.cell? ⟨w.heap.size, o, none⟩ = (#[.string s0, .string ⟨#[]⟩, .string ⟨#[]⟩, .string s3, .string s4, .string s5, .string s6, .string s7, .string s8, .string s9, .string ⟨#[]⟩, .string ⟨#[]⟩, .string s12] : Array Value)[o]? := fun o => (hb1.cell (by simp)).trans (by simp)
  have hz1 : w.heap.size < w1.heap.size := by have := hb1.size; simp at this; omega
  have HB1 : Hid (Below w.heap.size w w1) := (below_more (Below.refl _ _) _).trans (hb1.mono (by simp))
  clear hb1
  cases b1
  · go_wp2
    go_ret
    exact ⟨rfl, HB1.out⟩
  go_wp2_with fail
  refine (fits_any s0 ⟨#[]⟩ ⟨#[]⟩ s3 s4 s5 s6 s7 s8 s9 ⟨#[]⟩ ⟨#[]⟩ s12 _).mono ?_
  rintro e w2 ⟨b2, rfl, hb2⟩
  have hq2 : ∀ o, w2.cell? ⟨w.heap.size, o, none⟩ = (#[.string s0, .string ⟨#[]⟩, .string ⟨#[]⟩, .string s3, .string s4, .string s5, .string s6, .string s7, .string s8, .string s9, .string ⟨#[]⟩, .string ⟨#[]⟩, .string s12] : Array Value)[o]? := fun o => (hb2.cell hz1).trans (hq1 o)
  have hz2 : w.heap.size < w2.heap.size := by have := hb2.size; omega
  have HB2 : Hid (Below w.heap.size w w2) := HB1.out.trans (hb2.mono (by omega))
  clear hb2 hq1 hz1 HB1
  cases b2
  · go_wp2
    go_ret
    exact ⟨rfl, HB2.out⟩
  go_wp2_with fail
  refine (toParty_any s0 ⟨#[]⟩ ⟨#[]⟩ s3 s4 s5 s6 s7 s8 s9 ⟨#[]⟩ ⟨#[]⟩ s12 _).mono ?_
  rintro e w3 ⟨rfl, hb3⟩
  have hq3 : ∀ o, w3.cell? ⟨w.heap.size, o, none⟩ = (#[.string s0, .string ⟨#[]⟩, .string ⟨#[]⟩, .string s3, .string s4, .string s5, .string s6, .string s7, .string s8, .string s9, .string ⟨#[]⟩, .string ⟨#[]⟩, .string s12] : Array Value)[o]? := fun o => (hb3.cell hz2).trans (hq2 o)
  have hz3 : w.heap.size < w3.heap.size := by have := hb3.size; omega
  have HB3 : Hid (Below w.heap.size w w3) := HB2.out.trans (hb3.mono (by omega))
  clear hb3 hq2 hz2 HB2
  go_wp2_with fail
  refine (zzNewParty_any s0 ⟨#[]⟩ ⟨#[]⟩ s3 s4 s5 s6 s7 s8 s9 ⟨#[]⟩ ⟨#[]⟩ s12 _).mono ?_
  rintro e w4 ⟨tp, lp, cp, rfl, hb4, htx, hlg, hcn⟩
  have hq4 : ∀ o, w4.cell? ⟨w.heap.size, o, none⟩ = (#[.string s0, .string ⟨#[]⟩, .string ⟨#[]⟩, .string s3, .string s4, .string s5, .string s6, .string s7, .string s8, .string s9, .string ⟨#[]⟩, .string ⟨#[]⟩, .string s12] : Array Value)[o]? := fun o => (hb4.cell hz3).trans (hq3 o)
  have hz4 : w.heap.size < w4.heap.size := by have := hb4.size; omega
  have HB4 : Hid (Below w.heap.size w w4) := HB3.out.trans (hb4.mono (by omega))
  have hz41 : w.heap.size < w4.heap.size + 1 := by omega
  have hz42 : w.heap.size < w4.heap.size + 1 + 1 := by omega
  clear hb4 hq3 hz3 HB3
  obtain rfl := TaxAt.none htx
  clear htx
  obtain rfl := LegAt.none hlg
  clear hlg
  obtain ⟨cb, rfl, hcb, hcc⟩ := ConAt.some hcn (Or.inr (Or.inr t12))
  clear hcn
  go_wp2
  go_ret
  exact ⟨rfl, below_three HB4.out _ _ _⟩

end Go.Proofs.Qxb6605295a
