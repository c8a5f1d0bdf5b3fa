import Derived.Test.Qxb6605295aRows
import Derived.WalkKit
import Derived.ProofKit
namespace Go.Proofs.Qxb6605295a
open Go.ChangeShapes Go.WideShapes Go.ChangeAt Go.RowKit

/-- the cell of a struct's field of the type string -/
theorem str_cell {H : Type} {enc : TypeId × Value → H} {w : World} {base : Nat} {spare : Nat → Bool} {held : Bool} {n i : Nat} {cs : List Value} {xs : List (DataW H × List MemPlace)}
    (h : DataW.trod enc Try.prog w base spare held n 9 ((cs.drop i).take (Try.prog.cellsOf 9)) = xs[i]?) (hi : i < xs.length) : ∃ s : ByteArray, cs[i]? = some (.string s) := by
  rw [List.getElem?_eq_getElem hi] at h
  obtain ⟨s, hs, _⟩ := DataW.trod_string Try.underlying9 h
  have hc : Try.prog.cellsOf 9 = 1 := by kernel_rfl
  rw [hc] at hs
  refine ⟨s, ?_⟩
  have := congrArg (fun l => l[0]?) hs
  simpa [List.getElem?_take, List.getElem?_drop] using this

theorem list13 {cs : List Value} (hl : cs.length = 13) (s0 s1 s2 s3 s4 s5 s6 s7 s8 s9 s10 s11 s12 : ByteArray) (h0 : cs[0]? = some (.string s0)) (h1 : cs[1]? = some (.string s1)) (h2 : cs[2]? = some (.string s2)) (h3 : cs[3]? = some (.string s3)) (h4 : cs[4]? = some (.string s4)) (h5 : cs[5]? = some (.string s5)) (h6 : cs[6]? = some (.string s6)) (h7 : cs[7]? = some (.string s7)) (h8 : cs[8]? = some (.string s8)) (h9 : cs[9]? = some (.string s9)) (h10 : cs[10]? = some (.string s10)) (h11 : cs[11]? = some (.string s11)) (h12 : cs[12]? = some (.string s12)) :
    cs = [.string s0, .string s1, .string s2, .string s3, .string s4, .string s5, .string s6, .string s7, .string s8, .string s9, .string s10, .string s11, .string s12] := by
  refine List.ext_getElem? fun i => ?_
  by_cases hi : i < 13
  · match i, hi with
    | 0, _ => rw [h0]; rfl
    | 1, _ => rw [h1]; rfl
    | 2, _ => rw [h2]; rfl
    | 3, _ => rw [h3]; rfl
    | 4, _ => rw [h4]; rfl
    | 5, _ => rw [h5]; rfl
    | 6, _ => rw [h6]; rfl
    | 7, _ => rw [h7]; rfl
    | 8, _ => rw [h8]; rfl
    | 9, _ => rw [h9]; rfl
    | 10, _ => rw [h10]; rfl
    | 11, _ => rw [h11]; rfl
    | 12, _ => rw [h12]; rfl
  · rw [List.getElem?_eq_none (by omega), List.getElem?_eq_none (by simp; omega)]

theorem open_party {H : Type} {enc : TypeId × Value → H} {w : World} {base b0 : Nat} {spare : Nat → Bool} {held : Bool} {r : Reach} {v : Value} {d : DataW H} {p : List MemPlace}
    (hv : Value.okWide Try.prog w r b0 23 v) (h : DataW.Trod enc Try.prog w base spare held 23 v d p) :
    ∃ s0 s1 s2 s3 s4 s5 s6 s7 s8 s9 s10 s11 s12 : ByteArray, v = .agg #[.string s0, .string s1, .string s2, .string s3, .string s4, .string s5, .string s6, .string s7, .string s8, .string s9, .string s10, .string s11, .string s12] := by
  obtain ⟨cs, rfl, hsz⟩ := okWide_struct Try.underlying23 hv
  obtain ⟨fuel, hf⟩ := h
  obtain ⟨xs, n, _, _, hl, hx, hall⟩ := DataW.trod_struct Try.underlying23 hf
  have hxl : xs.length = 13 := hx
  have hcl : cs.toList.length = 13 := by
    have : Try.prog.cellsOf 23 = 13 := by kernel_rfl
    simpa [this] using hsz
  obtain ⟨s0, h0⟩ := str_cell (cs := cs.toList) (i := 0) (hall 0 _ rfl) (by omega)
  obtain ⟨s1, h1⟩ := str_cell (cs := cs.toList) (i := 1) (hall 1 _ rfl) (by omega)
  obtain ⟨s2, h2⟩ := str_cell (cs := cs.toList) (i := 2) (hall 2 _ rfl) (by omega)
  obtain ⟨s3, h3⟩ := str_cell (cs := cs.toList) (i := 3) (hall 3 _ rfl) (by omega)
  obtain ⟨s4, h4⟩ := str_cell (cs := cs.toList) (i := 4) (hall 4 _ rfl) (by omega)
  obtain ⟨s5, h5⟩ := str_cell (cs := cs.toList) (i := 5) (hall 5 _ rfl) (by omega)
  obtain ⟨s6, h6⟩ := str_cell (cs := cs.toList) (i := 6) (hall 6 _ rfl) (by omega)
  obtain ⟨s7, h7⟩ := str_cell (cs := cs.toList) (i := 7) (hall 7 _ rfl) (by omega)
  obtain ⟨s8, h8⟩ := str_cell (cs := cs.toList) (i := 8) (hall 8 _ rfl) (by omega)
  obtain ⟨s9, h9⟩ := str_cell (cs := cs.toList) (i := 9) (hall 9 _ rfl) (by omega)
  obtain ⟨s10, h10⟩ := str_cell (cs := cs.toList) (i := 10) (hall 10 _ rfl) (by omega)
  obtain ⟨s11, h11⟩ := str_cell (cs := cs.toList) (i := 11) (hall 11 _ rfl) (by omega)
  obtain ⟨s12, h12⟩ := str_cell (cs := cs.toList) (i := 12) (hall 12 _ rfl) (by omega)
  refine ⟨s0, s1, s2, s3, s4, s5, s6, s7, s8, s9, s10, s11, s12, ?_⟩
  have := list13 hcl s0 s1 s2 s3 s4 s5 s6 s7 s8 s9 s10 s11 s12 h0 h1 h2 h3 h4 h5 h6 h7 h8 h9 h10 h11 h12
  obtain ⟨l⟩ := cs
  simp at this
  rw [this]

end Go.Proofs.Qxb6605295a
