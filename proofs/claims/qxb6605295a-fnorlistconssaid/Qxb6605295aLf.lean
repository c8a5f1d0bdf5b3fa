import Derived.Test.Qxb6605295aRows
import Derived.Test.Qxb6605295aLa
import Derived.ProofKit
import Derived.SliceStrings
namespace Go.Proofs.Qxb6605295a
open Go.ChangeShapes Go.WideShapes Go.ChangeAt Go.RowKit

theorem cells9 : Try.prog.cellsOf 9 = 1 := by kernel_rfl

/-- A SLICE OF STRINGS THAT CAME IN, OPENED: its strings, and where they lie. -/
theorem open_items {H : Type} {enc : TypeId × Value → H} {W : World} {a : Option Addr} {len cap : Nat} {d : DataW H} {p : List MemPlace}
    (h : DataW.Trod enc Try.prog W 0 (fun _ => true) true 44 (.slice a len cap) d p) :
    ∃ xs : List ByteArray, len = xs.length ∧ SAt W a xs ∧ (a = none → xs = []) ∧ xs.length ≤ cap := by
  obtain ⟨fuel, hf⟩ := h
  rcases open_strings Try.underlying44 Try.underlying9 cells9 hf with ⟨hcs, _⟩ | ⟨x, l, c, ss, hcs, _, hl, hm, hz, _, hcell, _⟩
  · simp [Value.cells] at hcs
    obtain ⟨rfl, rfl, rfl⟩ := hcs
    exact ⟨[], rfl, fun i y hy => by simp at hy, fun _ => rfl, Nat.le_refl _⟩
  · simp [Value.cells] at hcs
    obtain ⟨rfl, rfl, rfl⟩ := hcs
    simp only [if_true] at hz
    have hlen : (ss.take len).length = len := by rw [List.length_take]; omega
    refine ⟨ss.take len, hlen.symm, fun i y hy => ?_, (fun h => absurd h (by simp)), by omega⟩
    have hi : i < len := by
      rcases Nat.lt_or_ge i len with h | h
      · exact h
      · rw [List.getElem?_eq_none (by omega)] at hy; cases hy
    rw [List.getElem?_take, if_pos hi] at hy
    have hc := hcell i (by omega)
    have hg : ss.getD i ByteArray.empty = y := by rw [List.getD_eq_getElem?_getD, hy]; rfl
    rw [hg] at hc
    obtain ⟨b, off, spot⟩ := x
    have hspot : spot = none := by simpa [Addr.add] using World.cell?_spot (hcell 0 (by omega))
    subst hspot
    rw [add_plain] at hc
    exact ⟨b, off, rfl, World.block_lt_of_cell? W _ hc, hc⟩

end Go.Proofs.Qxb6605295a
