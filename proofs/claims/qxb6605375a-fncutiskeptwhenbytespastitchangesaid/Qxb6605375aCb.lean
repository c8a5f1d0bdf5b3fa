import Derived.Test.Qxb6605375aRows
import Derived.WalkKit
import Derived.WalkSpells
import Derived.WalkLawsBesides
import Derived.Laws.Tables
namespace Go.Proofs.Qxb6605375a
open Go.RowKit

/-! ### a struct that is built out of parts: which cell holds what -/
theorem foldl_put (off : Nat) : ∀ (l : List Value) (k : Nat) (cs : Array Value),
    ((l.zipIdx k).foldl (fun cs (x : Value × Nat) => cs.setIfInBounds (off + x.2) x.1) cs).size = cs.size ∧
    ∀ i, ((l.zipIdx k).foldl (fun cs (x : Value × Nat) => cs.setIfInBounds (off + x.2) x.1) cs)[i]? = if off + k ≤ i ∧ i < off + k + l.length ∧ i < cs.size then l[i - (off + k)]? else cs[i]?
  | [], k, cs => by
    refine ⟨rfl, fun i => ?_⟩
    simp only [List.zipIdx_nil, List.foldl_nil, List.length_nil, Nat.add_zero]
    rw [if_neg (by omega)]
  | c :: l, k, cs => by
    obtain ⟨h1, h2⟩ := foldl_put off l (k + 1) (cs.setIfInBounds (off + k) c)
    simp only [List.zipIdx_cons, List.foldl_cons]
    refine ⟨by rw [h1, Array.size_setIfInBounds], fun i => ?_⟩
    rw [h2 i, Array.size_setIfInBounds]
    by_cases e : i = off + k
    · subst e
      rw [if_neg (by omega)]
      by_cases hi : off + k < cs.size
      · rw [if_pos (by simp; omega), Array.getElem?_setIfInBounds_self_of_lt hi]; simp
      · rw [if_neg (by omega), Array.getElem?_eq_none (by rw [Array.size_setIfInBounds]; omega), Array.getElem?_eq_none (by omega)]
    · by_cases hi : off + k ≤ i ∧ i < off + k + (c :: l).length ∧ i < cs.size
      · rw [if_pos hi, if_pos (by simp at hi ⊢; omega)]
        obtain ⟨d, hd⟩ : ∃ d, i = off + k + 1 + d := ⟨i - (off + k + 1), by omega⟩
        rw [hd, show off + k + 1 + d - (off + (k + 1)) = d by omega, show off + k + 1 + d - (off + k) = d + 1 by omega, List.getElem?_cons_succ]
      · rw [if_neg hi, if_neg (by simp at hi ⊢; omega), Array.getElem?_setIfInBounds_ne (Ne.symm e)]

/-- a part laid over the cells from off on -/
def putAt (off : Nat) (v : Value) (cs : Array Value) : Array Value := v.cells.zipIdx.foldl (fun cs (c, j) => cs.setIfInBounds (off + j) c) cs
theorem putAt_eq (off : Nat) (v : Value) (cs : Array Value) : (putAt off v cs).size = cs.size ∧
    ∀ i, (putAt off v cs)[i]? = if off ≤ i ∧ i < off + v.cells.size ∧ i < cs.size then v.cells[i - off]? else cs[i]? := by
  have h := foldl_put off v.cells.toList 0 cs
  have e : putAt off v cs = (v.cells.toList.zipIdx 0).foldl (fun cs (x : Value × Nat) => cs.setIfInBounds (off + x.2) x.1) cs := by
    unfold putAt
    rw [← Array.foldl_toList, Array.toList_zipIdx]
  rw [e]
  simpa using h
theorem fill_step (place : Nat → Option (Nat × Nat)) (cells : Array Value) (i : Nat) (v : Value) (rest : List (Nat × Value)) (off size : Nat) (hp : place i = some (off, size)) (h1 : v.cells.size = size) (h2 : off + size ≤ cells.size) :
    Instr.fill place cells ((i, v) :: rest) = Instr.fill place (putAt off v cells) rest := by
  rw [Instr.fill, hp]
  simp only [h1]
  rw [if_neg (by simp; omega)]
  rfl

theorem info33 : (Try.prog.info? 33).map (fun i => (i.zero.map (fun z => z.cells.size))) = some (some 260) := by kernel_rfl
theorem places33 : ∀ fs, Try.prog.underlying 33 = some (.struct fs) → fs.toList.mapM (fun f => (Try.prog.info? f.type).map fun i => (f.offset, i.size)) = some [(0, 2), (2, 256), (258, 1), (259, 1)] := by
  intro fs h
  rw [Try.underlying33] at h
  cases h
  kernel_rfl

/-- the chunker's cells -/
theorem built33 (avg seed small large : Int) (G : Array Value) (hG : G.size = 256) :
    ∃ C, Try.prog.built 33 [(0, .agg #[.int .i64 avg, .int .u32 seed]), (1, .agg G), (2, .int .u64 small), (3, .int .u64 large)] = some C ∧ C.size = 260 ∧
      C[0]? = some (.int .i64 avg) ∧ C[1]? = some (.int .u32 seed) ∧ (∀ i, i < 256 → C[2 + i]? = G[i]?) ∧ C[258]? = some (.int .u64 small) ∧ C[259]? = some (.int .u64 large) := by
  cases hi : Try.prog.info? 33 with
  | none => have := info33; rw [hi] at this; simp at this
  | some it =>
    cases hz : it.zero with
    | none => have := info33; rw [hi] at this; simp [hz] at this
    | some z =>
      have hzs : z.cells.size = 260 := by have := info33; rw [hi] at this; simpa [hz] using this
      have hpl := places33 _ Try.underlying33
      obtain ⟨s1, g1⟩ := putAt_eq 0 (.agg #[.int .i64 avg, .int .u32 seed]) z.cells
      obtain ⟨s2, g2⟩ := putAt_eq 2 (.agg G) (putAt 0 (.agg #[.int .i64 avg, .int .u32 seed]) z.cells)
      obtain ⟨s3, g3⟩ := putAt_eq 258 (.int .u64 small) (putAt 2 (.agg G) (putAt 0 (.agg #[.int .i64 avg, .int .u32 seed]) z.cells))
      obtain ⟨s4, g4⟩ := putAt_eq 259 (.int .u64 large) (putAt 258 (.int .u64 small) (putAt 2 (.agg G) (putAt 0 (.agg #[.int .i64 avg, .int .u32 seed]) z.cells)))
      have c1 : (Value.agg #[.int .i64 avg, .int .u32 seed]).cells = #[.int .i64 avg, .int .u32 seed] := rfl
      have c2 : (Value.agg G).cells = G := rfl
      have c3 : (Value.int .u64 small).cells = #[.int .u64 small] := rfl
      have c4 : (Value.int .u64 large).cells = #[.int .u64 large] := rfl
      rw [hzs] at s1 g1
      rw [s1] at s2 g2
      rw [s2] at s3 g3
      rw [s3] at s4 g4
      rw [c1] at g1; rw [c2, hG] at g2; rw [c3] at g3; rw [c4] at g4
      refine ⟨putAt 259 (.int .u64 large) (putAt 258 (.int .u64 small) (putAt 2 (.agg G) (putAt 0 (.agg #[.int .i64 avg, .int .u32 seed]) z.cells))), ?_, s4, ?_, ?_, ?_, ?_, ?_⟩
      · unfold Program.built
        rw [hi, Try.underlying33]
        simp only [hz, hpl]
        refine (fill_step _ _ 0 _ _ 0 2 (by rfl) (by rfl) (by omega)).trans ?_
        refine (fill_step _ _ 1 _ _ 2 256 (by rfl) (by exact hG) (by rw [s1]; omega)).trans ?_
        refine (fill_step _ _ 2 _ _ 258 1 (by rfl) (by rfl) (by rw [s2]; omega)).trans ?_
        refine (fill_step _ _ 3 _ _ 259 1 (by rfl) (by rfl) (by rw [s3]; omega)).trans ?_
        rfl
      · rw [g4, if_neg (by simp), g3, if_neg (by simp), g2, if_neg (by omega), g1, if_pos (by simp)]; rfl
      · rw [g4, if_neg (by simp), g3, if_neg (by simp), g2, if_neg (by omega), g1, if_pos (by simp)]; rfl
      · intro i hi
        rw [g4, if_neg (by omega), g3, if_neg (by omega), g2, if_pos (by omega), Nat.add_sub_cancel_left]
      · rw [g4, if_neg (by simp), g3, if_pos (by simp)]; rfl
      · rw [g4, if_pos (by simp)]; rfl

end Go.Proofs.Qxb6605375a
