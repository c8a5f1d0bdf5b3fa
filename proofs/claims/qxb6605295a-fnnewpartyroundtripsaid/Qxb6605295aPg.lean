import Derived.Test.Qxb6605295aRows
import Derived.WalkKit
import Derived.WalkSpells
import Derived.WalkLawsBesides
import Derived.Test.Qxb6605295aPd
namespace Go.Proofs.Qxb6605295a
open Go.RowKit

theorem TaxAt.none {B : Nat} {tp : Option Addr} {w : World} (h : TaxAt B ⟨#[]⟩ tp w) : tp = Option.none := by
  rcases h with h | h
  · exact h.2
  · exact absurd h.1 (by simp [ByteArray.toList_eq])
theorem LegAt.none {B : Nat} {c : ByteArray} {tp : Option Addr} {w : World} (h : LegAt B ⟨#[]⟩ c tp w) : tp = Option.none := by
  rcases h with h | h
  · exact h.2
  · exact absurd h.1 (by simp [ByteArray.toList_eq])
theorem ConAt.none {B : Nat} {tp : Option Addr} {w : World} (h : ConAt B ⟨#[]⟩ ⟨#[]⟩ ⟨#[]⟩ tp w) : tp = Option.none := by
  rcases h with h | h
  · exact h.2.2.2
  · rcases h.1 with h | h | h
    · exact absurd h (by simp [ByteArray.toList_eq])
    · exact absurd h.2 (by simp [ByteArray.toList_eq])
    · exact absurd h.2.2 (by simp [ByteArray.toList_eq])
theorem not_empty {s : ByteArray} (h : s.toList.isEmpty = false) : s ≠ ⟨#[]⟩ := by
  rintro rfl; simp [ByteArray.toList_eq] at h
theorem TaxAt.some {B : Nat} {s : ByteArray} {tp : Option Addr} {w : World} (h : TaxAt B s tp w) (hs : s.toList.isEmpty = false) :
    ∃ b, tp = Option.some ⟨b, 0, Option.none⟩ ∧ b < w.heap.size ∧ ∀ o, o < 2 → w.cell? ⟨b, o, Option.none⟩ = (#[.string s, .string ⟨#[86, 65, 84]⟩] : Array Value)[o]? := by
  rcases h with h | ⟨_, b, h, h1, h2, h3⟩
  · exact absurd h.1 (not_empty hs)
  · refine ⟨b, h, h2, fun o ho => ?_⟩
    match o, ho with
    | 0, _ => exact h3 0 _ rfl
    | 1, _ => exact h3 1 _ rfl
theorem LegAt.some {B : Nat} {s c : ByteArray} {tp : Option Addr} {w : World} (h : LegAt B s c tp w) (hs : s.toList.isEmpty = false) :
    ∃ b, tp = Option.some ⟨b, 0, Option.none⟩ ∧ b < w.heap.size ∧ ∀ o, o < 2 → w.cell? ⟨b, o, Option.none⟩ = (#[.string c, .string s] : Array Value)[o]? := by
  rcases h with h | ⟨_, b, h, h1, h2, h3⟩
  · exact absurd h.1 (not_empty hs)
  · refine ⟨b, h, h2, fun o ho => ?_⟩
    match o, ho with
    | 0, _ => exact h3 0 _ rfl
    | 1, _ => exact h3 1 _ rfl
theorem ConAt.some {B : Nat} {x y z : ByteArray} {tp : Option Addr} {w : World} (h : ConAt B x y z tp w) (hs : x.toList.isEmpty = false ∨ y.toList.isEmpty = false ∨ z.toList.isEmpty = false) :
    ∃ b, tp = Option.some ⟨b, 0, Option.none⟩ ∧ b < w.heap.size ∧ ∀ o, o < 3 → w.cell? ⟨b, o, Option.none⟩ = (#[.string x, .string y, .string z] : Array Value)[o]? := by
  rcases h with h | ⟨_, b, h, h1, h2, h3⟩
  · rcases hs with hs | hs | hs
    · exact absurd h.1 (not_empty hs)
    · exact absurd h.2.1 (not_empty hs)
    · exact absurd h.2.2.1 (not_empty hs)
  · refine ⟨b, h, h2, fun o ho => ?_⟩
    match o, ho with
    | 0, _ => exact h3 0 _ rfl
    | 1, _ => exact h3 1 _ rfl
    | 2, _ => exact h3 2 _ rfl
theorem below_three {w w' : World} (h : Below w.heap.size w w') (o1 o2 o3 : Obj) : Below w.heap.size w (((w'.alloc o1).alloc o2).alloc o3) := below_more (below_more (below_more h _) _) _

end Go.Proofs.Qxb6605295a
