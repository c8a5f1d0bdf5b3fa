import Derived.Test.Qxb6605306aRows
import Derived.WalkKit
import Derived.WalkSpells
import Derived.WalkLawsBesides
namespace Go.Proofs.Qxb6605306a
open Go.RowKit

/-! THE PLAIN FUNCTIONS AND THE PLAIN LAWS -/
/-- position i holds an unescaped c -/
def unB (zs : List Int) (c : Int) (i : Nat) : Bool := (zs.getD i 0 == c) && ((i == 0) || (zs.getD (i - 1) 0 != 92))
/-- the last such position below n, or -1 -/
def lastUp (zs : List Int) (c : Int) : Nat → Int
  | 0 => -1
  | n + 1 => if unB zs c n = true then (n : Int) else lastUp zs c n
/-- the last position below n that holds c, or -1 -/
def lastEq (zs : List Int) (c : Int) : Nat → Int
  | 0 => -1
  | n + 1 => if zs.getD n 0 = c then (n : Int) else lastEq zs c n

theorem lastUp_spec (zs : List Int) (c : Int) (n : Nat) :
    (lastUp zs c n = -1 ∧ ∀ i, i < n → unB zs c i = false) ∨ ∃ r : Nat, r < n ∧ lastUp zs c n = (r : Int) ∧ unB zs c r = true ∧ ∀ j, r < j → j < n → unB zs c j = false := by
  induction n with
  | zero => exact Or.inl ⟨rfl, fun i hi => by omega⟩
  | succ n ih =>
    by_cases h : unB zs c n = true
    · exact Or.inr ⟨n, by omega, by rw [lastUp, if_pos h], h, fun j h1 h2 => by omega⟩
    · have h' : unB zs c n = false := by simpa using h
      have e : lastUp zs c (n + 1) = lastUp zs c n := by rw [lastUp, if_neg h]
      rcases ih with ⟨h1, h2⟩ | ⟨r, h1, h2, h3, h4⟩
      · refine Or.inl ⟨by rw [e, h1], fun i hi => ?_⟩
        by_cases ei : i = n
        · rw [ei]; exact h'
        · exact h2 i (by omega)
      · refine Or.inr ⟨r, by omega, by rw [e, h2], h3, fun j h5 h6 => ?_⟩
        by_cases ei : j = n
        · rw [ei]; exact h'
        · exact h4 j h5 (by omega)
theorem lastUp_plain (zs : List Int) (c : Int) (n : Nat) (h : ∀ i, i < n → zs.getD i 0 ≠ 92) : lastUp zs c n = lastEq zs c n := by
  induction n with
  | zero => rfl
  | succ n ih =>
    have ih' := ih fun i hi => h i (by omega)
    have e : unB zs c n = (zs.getD n 0 == c) := by
      unfold unB
      by_cases h0 : n = 0
      · simp [h0]
      · have := h (n - 1) (by omega)
        have e1 : (zs.getD (n - 1) 0 != 92) = true := bne_iff_ne.2 this
        rw [e1]; simp
    rw [lastUp, lastEq, e, ih']
    simp
theorem lastUp_bd (zs : List Int) (c : Int) (n : Nat) : -1 ≤ lastUp zs c n ∧ lastUp zs c n < n := by
  induction n with
  | zero => simp [lastUp]
  | succ n ih => rw [lastUp]; split <;> omega
theorem lastEq_bd (zs : List Int) (c : Int) (n : Nat) : -1 ≤ lastEq zs c n ∧ lastEq zs c n < n := by
  induction n with
  | zero => simp [lastEq]
  | succ n ih => rw [lastEq]; split <;> omega

/-! bytes in memory -/
def BAt (w : World) (a : Option Addr) (zs : List Int) : Prop :=
  ∀ i, i < zs.length → ∃ b off, a = some ⟨b, off, none⟩ ∧ b < w.heap.size ∧ w.cell? ⟨b, off + i, none⟩ = some (.int .u8 (zs.getD i 0))
theorem BAt.kept {w w' : World} {a : Option Addr} {zs : List Int} (h : BAt w a zs) (hb : Below w.heap.size w w') : BAt w' a zs := fun i hi => by
  obtain ⟨b, off, ha, hlt, hc⟩ := h i hi
  exact ⟨b, off, ha, Nat.lt_of_lt_of_le hlt hb.size, (hb.cell (p := ⟨b, off + i, none⟩) hlt).trans hc⟩
theorem BAt.addr {w : World} {a : Option Addr} {zs : List Int} (h : BAt w a zs) (h0 : 0 < zs.length) :
    ∃ b off, a = some ⟨b, off, none⟩ ∧ b < w.heap.size ∧ ∀ i, i < zs.length → w.cell? ⟨b, off + i, none⟩ = some (.int .u8 (zs.getD i 0)) := by
  obtain ⟨b, off, ha, hb, _⟩ := h 0 h0
  refine ⟨b, off, ha, hb, fun i hi => ?_⟩
  obtain ⟨b', off', ha', _, hc⟩ := h i hi
  rw [ha] at ha'
  simp only [Option.some.injEq, Addr.mk.injEq, and_true] at ha'
  obtain ⟨rfl, rfl⟩ := ha'
  exact hc

theorem own_lt {w : World} {base e size g n cap : Nat} {L : List Value} (h : w.ownsRow base e size (.slice (some ⟨g, 0, none⟩) n cap) n L) : g < w.heap.size := by
  rcases h.2 with ⟨h', _⟩ | ⟨g', cap', cur, h', _, hg, _⟩
  · simp at h'
  · simp only [Value.slice.injEq, Option.some.injEq, Addr.mk.injEq, and_true, true_and] at h'
    obtain ⟨rfl, rfl⟩ := h'
    rcases Nat.lt_or_ge g w.heap.size with h | h
    · exact h
    · rw [Array.getElem?_eq_none h] at hg; cases hg
/-- the first k of the row's cells hold the first k bytes -/
def Part (zs : List Int) (k : Nat) (L : List Value) : Prop := ∀ i, i < k → L[i]? = some (.int .u8 (zs.getD i 0))
theorem Part.step {zs : List Int} {k : Nat} {L : List Value} (h : Part zs k L) (hk : k < L.length) : Part zs (k + 1) (L.set k (.int .u8 (zs.getD k 0))) := by
  intro i hi
  by_cases e : i = k
  · subst e
    rw [List.getElem?_set_self hk]
  · rw [List.getElem?_set_ne (Ne.symm e)]
    exact h i (by omega)
theorem bat_of_own {w : World} {base g n cap : Nat} {L : List Value} {zs : List Int} (h : w.ownsRow base 5 1 (.slice (some ⟨g, 0, none⟩) n cap) n L) (hp : Part zs n L) (hn : zs.length = n) (hg : g < w.heap.size) : BAt w (some ⟨g, 0, none⟩) zs := by
  intro i hi
  refine ⟨g, 0, rfl, hg, ?_⟩
  rw [Nat.zero_add, h.cellAt i (by omega)]
  exact hp i (by omega)

theorem info5 : (Try.prog.info? 5).map (fun i => (i.zero, i.size, i.bytes)) = some (some (.int .u8 0), 1, 1) := by kernel_rfl

/-- what zzCloneBytes hands back -/
def Cloned (zs : List Int) (w : World) (e : Ending) (w' : World) : Prop :=
  ∃ a' cap', e = .returned (.slice a' zs.length cap') ∧ BAt w' a' zs ∧ Below w.heap.size w w'

set_option maxHeartbeats 1000000 in
theorem clone_any (a : Option Addr) (zs : List Int) (cap : Nat) (w : World) (hs : BAt w a zs) (hl : zs.length ≤ 1048576) (hnil : a = none → zs = []) :
    Calls Try.prog 6 #[.slice a zs.length cap] w (Cloned zs w) := by
  have q22 : ∀ (w : World) (a : Option Addr) (n c n' c' : Nat), (binOp .eql 22 (.slice a n c) (.slice none n' c')).run Try.prog w = .ok (.bool a.isNone) w := fun w a n c n' c' => Lib.run_eql_slice_nil w _ _ a n c n' c' Try.underlying22
  cases a with
  | none =>
    obtain rfl := hnil rfl
    clear hs hnil
    go_enter Try.func6, Try.ntmps6
    go_wp2
    go_ret
    exact ⟨none, 0, rfl, by intro i hi; simp at hi, Below.refl _ _⟩
  | some ad =>
    obtain ⟨i0, hi, hz0, hz1, hz2⟩ := info_parts info5
    clear hnil
    go_enter Try.func6, Try.ntmps6
    go_wp2_with (at_make; refine wpList_make_full _ rfl _ _ 22 rfl w.heap.size 5 i0 (.int .u8 0) 1 Try.underlying22 hi hz0 hz1 _ _ _ _ zs.length rfl rfl (by omega) (by omega) ?c1 ?c2 ?c3 ?_)
    case c1 => rw [hz2]; omega
    case c2 => unfold maxLen; omega
    case c3 => exact Nat.le_refl _
    intro w1 hown hgr
    have hb1 : Below w.heap.size w w1 := (Below.refl _ _).grown hgr (Nat.le_refl _) (by simp)
    have hz1' : w.heap.size < w1.heap.size := own_lt hown
    clear hgr
    go_wp2
    go_loopw [4] (fun i wr => ∃ k : Nat, k ≤ zs.length ∧ i = .int .i64 k ∧ w.heap.size < wr.heap.size ∧ Below w.heap.size w wr ∧ ∃ L, wr.ownsRow w.heap.size 5 1 (.slice (some ⟨w.heap.size, 0, none⟩) zs.length zs.length) zs.length L ∧ Part zs k L) (fun i _ => zs.length - (intOf i).toNat)
    case atStart => exact ⟨0, Nat.zero_le _, rfl, hz1', hb1, _, hown, fun i h => by omega⟩
    case round =>
      clear hown hb1 hz1'
      obtain ⟨k, hk, rfl, hzr, hbr, L, hown, hpart⟩ := hrel
      by_cases hlt : k < zs.length
      · obtain ⟨b, off, had, hblt, hc⟩ := hs k hlt
        obtain ⟨y, hy⟩ : ∃ y, y = zs.getD k 0 := ⟨_, rfl⟩
        rw [← hy] at hc
        cases had
        have hcr : wr.cell? ⟨b, off + k, none⟩ = some (.int .u8 y) := (hbr.cell (p := ⟨b, off + k, none⟩) hblt).trans hc
        have hLk : k < L.length := by have := hown.1; omega
        have hcd : wr.cell? ⟨w.heap.size, k, none⟩ = some L[k] := by rw [hown.cellAt k (by omega), List.getElem?_eq_getElem hLk]
        have hfd := hown.frozenAt k
        have HO := hown.stored k (.int .u8 y)
        have HP : Hid (Part zs (k + 1) (L.set k (.int .u8 y))) := by rw [hy]; exact hpart.step hLk
        have HOW : Hid ((wr.setCell ⟨w.heap.size, k, none⟩ (.int .u8 y)).ownsRow w.heap.size 5 1 (.slice (some ⟨w.heap.size, 0, none⟩) zs.length zs.length) zs.length (L.set k (.int .u8 y))) := HO.1
        have HB : Hid (Below w.heap.size w (wr.setCell ⟨w.heap.size, k, none⟩ (.int .u8 y))) := hbr.setCell (Nat.le_refl _) _
        clear hs hc hpart hown hbr HO hy
        go_wp2
        go_roundw
        case rel => exact ⟨k + 1, by omega, by go_num, by rw [World.size_setCell]; exact hzr, HB.out, _, HOW.out, HP.out⟩
        case measure => simp [intOf]; omega
      · have HS : Hid (BAt wr (some ⟨w.heap.size, 0, none⟩) zs) := by
          have hkx : k = zs.length := by omega
          rw [hkx] at hpart
          exact bat_of_own hown hpart rfl hzr
        clear hs hpart hown
        go_wp2
        go_ret
        exact ⟨_, _, rfl, HS.out, hbr⟩

end Go.Proofs.Qxb6605306a
