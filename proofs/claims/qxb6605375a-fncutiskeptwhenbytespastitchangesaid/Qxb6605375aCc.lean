import Derived.Test.Qxb6605375aCb
namespace Go.Proofs.Qxb6605375a
open Go.RowKit

set_option maxHeartbeats 400000 in
theorem max_any (avg seed : Int) (w : World) (h1 : -268435456 ≤ avg) (h2 : avg ≤ 268435456) :
    Calls Try.prog 7 #[.agg #[.int .i64 avg, .int .u32 seed]] w fun e w' => e = .returned (.int .i64 (avg * 4)) ∧ Below w.heap.size w w' := by
  go_enter Try.func7, Try.ntmps7
  go_wp2
  go_ret
  exact ⟨rfl, (Below.refl _ _).alloc (Nat.le_refl _) _⟩

set_option maxHeartbeats 400000 in
theorem min_any (avg seed : Int) (w : World) (h1 : -268435456 ≤ avg) (h2 : avg ≤ 268435456) :
    Calls Try.prog 8 #[.agg #[.int .i64 avg, .int .u32 seed]] w fun e w' => e = .returned (.int .i64 (avg.tdiv 4)) ∧ Below w.heap.size w w' := by
  go_enter Try.func8, Try.ntmps8
  go_wp2
  go_ret
  exact ⟨rfl, (Below.refl _ _).alloc (Nat.le_refl _) _⟩

/-- a bool, whichever; nothing old has turned -/
def RetB (w : World) (e : Ending) (w' : World) : Prop := ∃ b, e = .returned (.bool b) ∧ Below w.heap.size w w'
set_option maxHeartbeats 400000 in
theorem bytes_any (avg seed small large : Int) (G : Array Value) (a0 a1 : Option Addr) (n0 n1 c0 c1 : Nat) (w : World) :
    Calls Try.prog 4 #[.int .i64 avg, .int .u32 seed, .agg G, .int .u64 small, .int .u64 large, .slice a0 n0 c0, .slice a1 n1 c1] w (RetB w) := by
  go_enter Try.func4, Try.ntmps4
  go_wp2
  all_goals
    go_ret
    exact ⟨_, rfl, (Below.refl _ _).alloc (Nat.le_refl _) _⟩

/-- the chunker in memory: at block g -/
structure Chunk (w : World) (g : Nat) (avg seed small large : Int) (gs : List Int) : Prop where
  lt : g < w.heap.size
  c0 : w.cell? ⟨g, 0, none⟩ = some (.int .i64 avg)
  c1 : w.cell? ⟨g, 1, none⟩ = some (.int .u32 seed)
  cg : ∀ i, i < 256 → w.cell? ⟨g, 2 + i, none⟩ = some (.int .u64 (gs.getD i 0))
  cs : w.cell? ⟨g, 258, none⟩ = some (.int .u64 small)
  cl : w.cell? ⟨g, 259, none⟩ = some (.int .u64 large)
theorem Chunk.kept {w w' : World} {g : Nat} {avg seed small large : Int} {gs : List Int} (h : Chunk w g avg seed small large gs) (hb : Below w.heap.size w w') : Chunk w' g avg seed small large gs :=
  ⟨Nat.lt_of_lt_of_le h.lt hb.size, (hb.cell (p := ⟨g, 0, none⟩) h.lt).trans h.c0, (hb.cell (p := ⟨g, 1, none⟩) h.lt).trans h.c1, fun i hi => (hb.cell (p := ⟨g, 2 + i, none⟩) h.lt).trans (h.cg i hi),
   (hb.cell (p := ⟨g, 258, none⟩) h.lt).trans h.cs, (hb.cell (p := ⟨g, 259, none⟩) h.lt).trans h.cl⟩

/-- the array of the gear, as a value's cells -/
def gearV (gs : List Int) : Array Value := (gs.map (Value.int .u64)).toArray
theorem gearV_size (gs : List Int) (h : gs.length = 256) : (gearV gs).size = 256 := by simp [gearV, h]
theorem gearV_get (gs : List Int) (h : gs.length = 256) (i : Nat) (hi : i < 256) : (gearV gs)[i]? = some (.int .u64 (gs.getD i 0)) := by
  unfold gearV
  rw [List.getElem?_toArray, List.getElem?_map, List.getD_eq_getElem?_getD, List.getElem?_eq_getElem (by omega)]
  rfl

theorem info24 (G : Array Value) (hG : G.size = 256) : (Try.prog.info? 24).map (·.size) = some G.size := by
  rw [hG]; kernel_rfl

theorem wpList_buildC {P : Program} {ops : Array Oper} {rest : List Oper} {o : Oper} {a : Act} {w : World} {Q : Exit → Act → World → Prop} (hg : o.guard = none) (t : TypeId) (parts : Array (Nat × Operand)) (ho : o.op = .build t parts)
    (cells : Array Value) (hc : P.built t (parts.toList.map fun (i, x) => (i, a.eval x)) = some cells) (hK : wpList P ops Q rest (a.put o.dst (.agg cells)) w) : wpList P ops Q (o :: rest) a w :=
  wpList_plain hg fun K hK' => by
    have hc : P.built t (parts.map fun (i, x) => (i, a.eval x)).toList = some cells := by rw [Array.toList_map]; exact hc
    unfold Oper.wp execOp
    simp only [ho, Sem.run_bind, run_build w t _ cells hc, Result.andThen_ok]
    exact hK' _ _ hK

/-- what ZZNewChunker hands back -/
def Made (w : World) (avg seed small large : Int) (gs : List Int) (e : Ending) (w' : World) : Prop :=
  ∃ g, e = .returned (.pointer (some ⟨g, 0, none⟩)) ∧ Chunk w' g avg seed small large gs ∧ Below w.heap.size w w'

set_option maxRecDepth 100000 in
set_option maxHeartbeats 1000000 in
theorem new_any (avg seed small large : Int) (gs : List Int) (hgs : gs.length = 256) (w : World) :
    Calls Try.prog 5 #[.int .i64 avg, .int .u32 seed, .agg (gearV gs), .int .u64 small, .int .u64 large] w (Made w avg seed small large gs) := by
  obtain ⟨G, hGv⟩ : ∃ G, G = gearV gs := ⟨_, rfl⟩
  have hG : G.size = 256 := by rw [hGv]; exact gearV_size gs hgs
  have hGi : ∀ i, i < 256 → G[i]? = some (.int .u64 (gs.getD i 0)) := by rw [hGv]; exact gearV_get gs hgs
  rw [← hGv]
  clear hGv
  obtain ⟨C, hC, hCs, h0, h1, h2, h3, h4⟩ := built33 avg seed small large G hG
  have hgG := heap_alloc_new w (.cells G 24)
  have hiG := info24 G hG
  have HX : Hid (C.size = 260 ∧ C[0]? = some (.int .i64 avg) ∧ C[1]? = some (.int .u32 seed) ∧ (∀ i, i < 256 → C[2 + i]? = some (.int .u64 (gs.getD i 0))) ∧ C[258]? = some (.int .u64 small) ∧ C[259]? = some (.int .u64 large)) :=
    ⟨hCs, h0, h1, fun i hi => (h2 i hi).trans (hGi i hi), h3, h4⟩
  clear hCs h0 h1 h2 h3 h4 hG hGi
  go_enter Try.func5, Try.ntmps5
  go_wp2_with (first | (refine wpList_load_row rfl 24 (.tmp 7) rfl w.heap.size rfl 24 G (0, 0) _ hgG Try.underlying24 rfl hiG ?_) | (refine wpList_buildC rfl 33 _ rfl C ?hb ?_))
  go_ret
  obtain ⟨x1, x2, x3, x4, x5, x6⟩ := HX.out
  have hcell : ∀ j, ((w.alloc (.cells G 24)).alloc (.cells C 33)).cell? ⟨w.heap.size + 1, j, none⟩ = C[j]? := fun j => by
    have := cell_of_row ((w.alloc (.cells G 24)).alloc (.cells C 33)) (w.heap.size + 1) j C 33 (0, 0) (heap_alloc2_new w _ _)
    exact this
  refine ⟨w.heap.size + 1, rfl, ⟨by simp, (hcell 0).trans x2, (hcell 1).trans x3, fun i hi => (hcell (2 + i)).trans (x4 i hi), (hcell 258).trans x5, (hcell 259).trans x6⟩, ?_⟩
  exact ((Below.refl _ _).alloc (Nat.le_refl _) _).alloc (by simp) _

end Go.Proofs.Qxb6605375a
