import Derived.Test.Qxb6605295aRows
import Derived.WalkKit
import Derived.WalkSpells
import Derived.WalkLawsBesides
namespace Go.Proofs.Qxb6605295a
open Go.RowKit

theorem empty_of {s : ByteArray} (h : s.toList.isEmpty = true) : s = ⟨#[]⟩ := by
  obtain ⟨⟨l⟩⟩ := s
  simp [ByteArray.toList_eq] at h
  subst h; rfl
theorem empty_or (s : ByteArray) : s = ⟨#[]⟩ ∨ s.toList.isEmpty = false := by
  cases h : s.toList.isEmpty
  · exact Or.inr rfl
  · exact Or.inl (empty_of h)
theorem below_more {w w' : World} (h : Below w.heap.size w w') (o : Obj) : Below w.heap.size w (w'.alloc o) := h.alloc h.size o
theorem bcell {W w1 : World} (hb : Below W.heap.size W w1) : (∀ b o, b < W.heap.size → w1.cell? ⟨b, o, none⟩ = W.cell? ⟨b, o, none⟩) ∧ (∀ b o, b < W.heap.size → w1.frozen? ⟨b, o, none⟩ = W.frozen? ⟨b, o, none⟩) :=
  ⟨fun b o h => hb.cell (p := ⟨b, o, none⟩) h, fun b o h => hb.frozen (p := ⟨b, o, none⟩) h⟩

/-- a block from B on whose first cells hold these strings -/
def StrsAt (B : Nat) (b : Nat) (w : World) (xs : List ByteArray) : Prop :=
  B ≤ b ∧ b < w.heap.size ∧ ∀ i x, xs[i]? = some x → w.cell? ⟨b, i, none⟩ = some (.string x)
theorem StrsAt.setCell {B b : Nat} {w : World} {xs : List ByteArray} (h : StrsAt B b w xs) {p : Addr} (hp : p.block < B) (u : Value) : StrsAt B b (w.setCell p u) xs := by
  refine ⟨h.1, by rw [World.size_setCell]; exact h.2.1, fun i x hx => ?_⟩
  rw [World.cell?_of_block (w := w) (Below.heap_setCell w p u b (by have := h.1; omega))]
  exact h.2.2 i x hx
theorem StrsAt.mono {B B' b : Nat} {w : World} {xs : List ByteArray} (h : StrsAt B b w xs) (hp : B' ≤ B) : StrsAt B' b w xs := ⟨Nat.le_trans hp h.1, h.2.1, h.2.2⟩

/-- the tax scheme: nil, or a block with the VAT ID and VAT -/
def TaxAt (B : Nat) (s : ByteArray) (tp : Option Addr) (w : World) : Prop :=
  (s = ⟨#[]⟩ ∧ tp = none) ∨ (s.toList.isEmpty = false ∧ ∃ b, tp = some ⟨b, 0, none⟩ ∧ StrsAt B b w [s, ⟨#[86, 65, 84]⟩])
/-- the legal identifier: nil, or a block with the scheme and the value -/
def LegAt (B : Nat) (s c : ByteArray) (tp : Option Addr) (w : World) : Prop :=
  (s = ⟨#[]⟩ ∧ tp = none) ∨ (s.toList.isEmpty = false ∧ ∃ b, tp = some ⟨b, 0, none⟩ ∧ StrsAt B b w [c, s])
/-- the contact: nil, or a block with its three fields -/
def ConAt (B : Nat) (x y z : ByteArray) (tp : Option Addr) (w : World) : Prop :=
  (x = ⟨#[]⟩ ∧ y = ⟨#[]⟩ ∧ z = ⟨#[]⟩ ∧ tp = none) ∨
  ((x.toList.isEmpty = false ∨ (x = ⟨#[]⟩ ∧ y.toList.isEmpty = false) ∨ (x = ⟨#[]⟩ ∧ y = ⟨#[]⟩ ∧ z.toList.isEmpty = false)) ∧ ∃ b, tp = some ⟨b, 0, none⟩ ∧ StrsAt B b w [x, y, z])
theorem TaxAt.setCell {B : Nat} {s : ByteArray} {tp : Option Addr} {w : World} (h : TaxAt B s tp w) {p : Addr} (hp : p.block < B) (u : Value) : TaxAt B s tp (w.setCell p u) :=
  h.elim Or.inl fun ⟨a, b, c, d⟩ => Or.inr ⟨a, b, c, d.setCell hp u⟩
theorem LegAt.setCell {B : Nat} {s c : ByteArray} {tp : Option Addr} {w : World} (h : LegAt B s c tp w) {p : Addr} (hp : p.block < B) (u : Value) : LegAt B s c tp (w.setCell p u) :=
  h.elim Or.inl fun ⟨a, b, c, d⟩ => Or.inr ⟨a, b, c, d.setCell hp u⟩
theorem ConAt.setCell {B : Nat} {x y z : ByteArray} {tp : Option Addr} {w : World} (h : ConAt B x y z tp w) {p : Addr} (hp : p.block < B) (u : Value) : ConAt B x y z tp (w.setCell p u) :=
  h.elim Or.inl fun ⟨a, b, c, d⟩ => Or.inr ⟨a, b, c, d.setCell hp u⟩
theorem TaxAt.mono {B B' : Nat} {s : ByteArray} {tp : Option Addr} {w : World} (h : TaxAt B s tp w) (hp : B' ≤ B) : TaxAt B' s tp w :=
  h.elim Or.inl fun ⟨a, b, c, d⟩ => Or.inr ⟨a, b, c, d.mono hp⟩
theorem LegAt.mono {B B' : Nat} {s c : ByteArray} {tp : Option Addr} {w : World} (h : LegAt B s c tp w) (hp : B' ≤ B) : LegAt B' s c tp w :=
  h.elim Or.inl fun ⟨a, b, c, d⟩ => Or.inr ⟨a, b, c, d.mono hp⟩
theorem ConAt.mono {B B' : Nat} {x y z : ByteArray} {tp : Option Addr} {w : World} (h : ConAt B x y z tp w) (hp : B' ≤ B) : ConAt B' x y z tp w :=
  h.elim Or.inl fun ⟨a, b, c, d⟩ => Or.inr ⟨a, b, c, d.mono hp⟩

/-- what newParty hands back -/
def NewAt (w : World) (s0 s1 s2 s3 s4 s5 s6 s7 s8 s9 s10 s11 s12 : ByteArray) (e : Ending) (w' : World) : Prop :=
  ∃ tp lp cp, e = .returned (.agg #[.string s5, .string s4, .string s0, .string s6, .string s7, .string s8, .string s9, .pointer tp, .string s0, .pointer lp, .pointer cp]) ∧ Below w.heap.size w w' ∧ TaxAt w.heap.size s1 tp w' ∧ LegAt w.heap.size s2 s3 lp w' ∧ ConAt w.heap.size s10 s11 s12 cp w'

end Go.Proofs.Qxb6605295a
