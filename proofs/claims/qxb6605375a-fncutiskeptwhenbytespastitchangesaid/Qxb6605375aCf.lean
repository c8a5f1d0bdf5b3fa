import Derived.Test.Qxb6605375aCe
namespace Go.Proofs.Qxb6605375a
open Go.RowKit

/-! bytes in memory -/
def BAt (w : World) (a : Option Addr) (zs : List Int) : Prop :=
  ∀ i, i < zs.length → ∃ b off, a = some ⟨b, off, none⟩ ∧ b < w.heap.size ∧ w.cell? ⟨b, off + i, none⟩ = some (.int .u8 (zs.getD i 0))
theorem BAt.kept {w w' : World} {a : Option Addr} {zs : List Int} (h : BAt w a zs) (hb : Below w.heap.size w w') : BAt w' a zs := fun i hi => by
  obtain ⟨b, off, ha, hlt, hc⟩ := h i hi
  exact ⟨b, off, ha, Nat.lt_of_lt_of_le hlt hb.size, (hb.cell (p := ⟨b, off + i, none⟩) hlt).trans hc⟩
theorem BAt.addr {w : World} {a : Option Addr} {zs : List Int} (h : BAt w a zs) (h0 : 0 < zs.length) :
    ∃ b off, a = some ⟨b, off, none⟩ ∧ b < w.heap.size ∧ ∀ i, i < zs.length → w.cell? ⟨b, off + i, none⟩ = some (.int .u8 (zs.getD i 0)) := by
  obtain ⟨b, off, ha, hb, _⟩ := h 0 h0
  refine ⟨b, off, ha, hb, fun i hi => ?_⟩
  obtain ⟨b', off', ha', _, hc⟩ := h i hi
  rw [ha] at ha'
  simp only [Option.some.injEq, Addr.mk.injEq, and_true] at ha'
  obtain ⟨rfl, rfl⟩ := ha'
  exact hc
theorem own_lt {w : World} {base e size g n cap : Nat} {L : List Value} (h : w.ownsRow base e size (.slice (some ⟨g, 0, none⟩) n cap) n L) : g < w.heap.size := by
  rcases h.2 with ⟨h', _⟩ | ⟨g', cap', cur, h', _, hg, _⟩
  · simp at h'
  · simp only [Value.slice.injEq, Option.some.injEq, Addr.mk.injEq, and_true, true_and] at h'
    obtain ⟨rfl, rfl⟩ := h'
    rcases Nat.lt_or_ge g w.heap.size with h | h
    · exact h
    · rw [Array.getElem?_eq_none h] at hg; cases hg
/-- the first k of the row's cells hold the first k bytes -/
def Part (zs : List Int) (k : Nat) (L : List Value) : Prop := ∀ i, i < k → L[i]? = some (.int .u8 (zs.getD i 0))
theorem Part.step {zs : List Int} {k : Nat} {L : List Value} {y : Int} (h : Part zs k L) (hy : zs.getD k 0 = y) (hk : k < L.length) : Part zs (k + 1) (L.set k (.int .u8 y)) := by
  intro i hi
  by_cases e : i = k
  · subst e
    rw [List.getElem?_set_self hk, hy]
  · rw [List.getElem?_set_ne (Ne.symm e)]
    exact h i (by omega)
theorem bat_of_own {w : World} {base g n cap : Nat} {L : List Value} {zs : List Int} (h : w.ownsRow base 5 1 (.slice (some ⟨g, 0, none⟩) n cap) n L) (hp : Part zs n L) (hn : zs.length = n) : BAt w (some ⟨g, 0, none⟩) zs := by
  intro i hi
  refine ⟨g, 0, rfl, own_lt h, ?_⟩
  rw [Nat.zero_add, h.cellAt i (by omega)]
  exact hp i (by omega)
theorem info5 : (Try.prog.info? 5).map (fun i => (i.zero, i.size, i.bytes)) = some (some (.int .u8 0), 1, 1) := by kernel_rfl
theorem heap_kept {W w' : World} {k : Nat} {o : Obj} (hb : Below W.heap.size W w') (hk : k < W.heap.size) (h : W.heap[k]? = some o) : w'.heap[k]? = some o := (hb.block k hk).trans h
theorem new_is (avg seed small large : Int) (gs : List Int) (G : Array Value) (hG : G = gearV gs) (hgs : gs.length = 256) (w : World) :
    Calls Try.prog 5 #[.int .i64 avg, .int .u32 seed, .agg G, .int .u64 small, .int .u64 large] w (Made w avg seed small large gs) := by
  rw [hG]; exact new_any avg seed small large gs hgs w

/-- Cut's contract at a row of bytes -/
theorem cut_at (g : Nat) (avg seed small large : Int) (gs : List Int) (a : Option Addr) (zs : List Int) (n cap : Nat) (M L r E : Nat) (w : World) (hch : Chunk w g avg seed small large gs) (h1 : 0 ≤ avg) (h2 : avg ≤ 268435456) (hn : zs.length = n) (hn2 : n ≤ 4194304)
    (hM : avg * 4 = (M : Int)) (hL : avg.tdiv 4 = (L : Int)) (hE : E = L - L % 2) (hr : (n ≤ M ∧ r = n) ∨ (M < n ∧ r = M)) (hrl : L < r) (hd : BAt w a zs) (hby : ∀ i, 0 ≤ zs.getD i 0 ∧ zs.getD i 0 ≤ 255) :
    Calls Try.prog 6 #[.pointer (some ⟨g, 0, none⟩), .slice a n cap] w (CutTo (hit zs gs E avg small large) E r w) := by
  obtain ⟨b, off, rfl, hbl, hc⟩ := hd.addr (by omega)
  have hLb : L ≤ 268435456 := by
    have e : avg.tdiv 4 = avg / 4 := Int.tdiv_eq_ediv_of_nonneg h1
    omega
  exact cut_loop g avg seed small large gs b off zs n cap M L r E w hch h1 h2 hn2 hM hL hr hrl hLb (by omega) (by rw [hE]; exact i64_andNot1 L hLb) (by omega) (by omega) (fun i hi => hc i (by omega)) hby hbl

/-- r is the lesser of n and M -/
def MinOf (n M r : Nat) : Prop := (n ≤ M ∧ r = n) ∨ (M < n ∧ r = M)
theorem getD_left (zs ts : List Int) (k : Nat) (h : k < zs.length) : (zs ++ ts).getD k 0 = zs.getD k 0 := by
  rw [List.getD_eq_getElem?_getD, List.getD_eq_getElem?_getD, List.getElem?_append_left h]
theorem getD_right (zs ts : List Int) (k : Nat) : (zs ++ ts).getD (zs.length + k) 0 = ts.getD k 0 := by
  rw [List.getD_eq_getElem?_getD, List.getD_eq_getElem?_getD, List.getElem?_append_right (by omega), Nat.add_sub_cancel_left]
theorem bytes_append {zs ts : List Int} (h1 : ∀ i, 0 ≤ zs.getD i 0 ∧ zs.getD i 0 ≤ 255) (h2 : ∀ i, 0 ≤ ts.getD i 0 ∧ ts.getD i 0 ≤ 255) : ∀ i, 0 ≤ (zs ++ ts).getD i 0 ∧ (zs ++ ts).getD i 0 ≤ 255 := by
  intro i
  by_cases h : i < zs.length
  · rw [getD_left zs ts i h]; exact h1 i
  · obtain ⟨k, rfl⟩ : ∃ k, i = zs.length + k := ⟨i - zs.length, by omega⟩
    rw [getD_right]; exact h2 k
theorem getD_take (zs : List Int) (m i : Nat) (h : i < m) : (zs.take m).getD i 0 = zs.getD i 0 := by
  rw [List.getD_eq_getElem?_getD, List.getD_eq_getElem?_getD, List.getElem?_take, if_pos h]
theorem bytes_take {zs : List Int} {m : Nat} (h1 : ∀ i, 0 ≤ zs.getD i 0 ∧ zs.getD i 0 ≤ 255) : ∀ i, 0 ≤ (zs.take m).getD i 0 ∧ (zs.take m).getD i 0 ≤ 255 := by
  intro i
  by_cases h : i < m
  · rw [getD_take zs m i h]; exact h1 i
  · rw [List.getD_eq_getElem?_getD, List.getElem?_take, if_neg h]; decide
theorem bat_take {w : World} {a : Option Addr} {zs : List Int} {m : Nat} (h : BAt w a zs) : BAt w a (zs.take m) := fun i hi => by
  rw [List.length_take] at hi
  obtain ⟨b, off, ha, hb, hc⟩ := h i (by omega)
  exact ⟨b, off, ha, hb, by rw [getD_take zs m i (by omega)]; exact hc⟩
theorem tdiv_neg_bd (a : Int) (h : a ≤ 0) : a * 4 ≤ a.tdiv 4 := by
  have e := Int.tdiv_eq_ediv (a := a) (b := 4)
  have e4 : Int.sign 4 = 1 := rfl
  rw [e, e4]
  split <;> omega
theorem pos_of_big {avg : Int} (h : ¬ avg * 4 ≤ avg.tdiv 4) : 0 ≤ avg := by
  rcases Int.le_total avg 0 with h' | h'
  · exact absurd (tdiv_neg_bd avg h') h
  · exact h'
theorem not_small_nil1 {n avg : Int} (h0 : n = 0) (h1 : ¬ avg * 4 < n) (h2 : ¬ n ≤ avg.tdiv 4) : False := by
  have : avg.tdiv 4 = avg / 4 := Int.tdiv_eq_ediv_of_nonneg (by omega)
  omega
theorem not_small_nil2 {n avg : Int} (h0 : n = 0) (h1 : avg * 4 < n) (h2 : ¬ avg * 4 ≤ avg.tdiv 4) : False :=
  h2 (tdiv_neg_bd avg (by omega))
theorem short_ok {ht : Nat → Bool} {E L M n r m r3 c : Nat} (h : FirstHit ht E r c) (hr : (n ≤ M ∧ r = n) ∨ (M < n ∧ r = M)) (hLr : L < r) (hm : (c + 2 ≤ n ∧ m = c + 2) ∨ (n < c + 2 ∧ m = n)) (hr3 : (m ≤ M ∧ r3 = m) ∨ (M < m ∧ r3 = M)) (hEL : L ≤ E + 1) : L < r3 := by
  rcases h with ⟨h1, h2, _, _⟩ | ⟨h1, _⟩ <;> omega

end Go.Proofs.Qxb6605375a
