import Derived.Test.Qxb6605295aLa
namespace Go.Proofs.Qxb6605295a
open Go.RowKit

theorem info9 : (Try.prog.info? 9).map (fun i => (i.zero, i.size, i.bytes)) = some (some (.string ⟨#[]⟩), 1, 16) := by kernel_rfl

set_option maxHeartbeats 1000000 in
theorem bytesCons_any (x : ByteArray) (a : Option Addr) (xs : List ByteArray) (cap : Nat) (w : World) (hs : SAt w a xs) :
    Calls Try.prog 14 #[.string x, .slice a xs.length cap] w (Guard xs w) := by
  by_cases hx : (1048576 : Int) < (x.size : Int)
  · go_enter Try.func14, Try.ntmps14
    go_wp2
    go_ret
    exact ⟨false, rfl, rfl, by simp⟩
  by_cases hl : (1048576 : Int) < (xs.length : Int)
  · go_enter Try.func14, Try.ntmps14
    go_wp2
    go_ret
    exact ⟨false, rfl, rfl, by simp⟩
  by_cases hxl : (1048576 : Int) < (x.size : Int) + (xs.length : Int)
  · go_enter Try.func14, Try.ntmps14
    go_wp2
    go_ret
    exact ⟨false, rfl, rfl, by simp⟩
  go_enter Try.func14, Try.ntmps14
  go_wp2
  go_loop [5, 6] (fun n i => ∃ k : Nat, k ≤ xs.length ∧ i = .int .i64 k ∧ (∃ z, n = .int .i64 z) ∧ ∀ y ∈ xs.take k, y.size ≤ 1048576) (fun _ i => xs.length - (intOf i).toNat)
  case atStart => exact ⟨0, Nat.zero_le _, rfl, ⟨_, rfl⟩, by simp⟩
  case round =>
    obtain ⟨k, hk, rfl, ⟨z, rfl⟩, hall⟩ := hrel
    by_cases hlt : k < xs.length
    · obtain ⟨y, hy⟩ : ∃ y, xs[k]? = some y := ⟨_, List.getElem?_eq_getElem hlt⟩
      obtain ⟨b, off, rfl, hblt, hc⟩ := hs k y hy
      by_cases hyl : (1048576 : Int) < (y.size : Int)
      · clear hall hy hs
        go_wp2
        go_ret
        exact ⟨false, rfl, rfl, by simp⟩
      · have HA : Hid (∀ y ∈ xs.take (k + 1), y.size ≤ 1048576) := mem_take_succ hy hall (by omega)
        clear hall hy hs
        go_wp2
        · go_ret
          exact ⟨false, rfl, rfl, by simp⟩
        · go_round
          case rel => exact ⟨k + 1, by omega, by go_num, ⟨_, rfl⟩, HA.out⟩
          case measure => simp [intOf]; omega
    · have HA : Hid (∀ y ∈ xs, y.size ≤ 1048576) := by rw [List.take_of_length_le (by omega)] at hall; exact hall
      clear hall hs
      go_wp2
      go_ret
      exact ⟨true, rfl, rfl, fun _ => HA.out⟩

/-- the first k of the row's cells hold the first k strings -/
def Part (xs : List ByteArray) (k : Nat) (L : List Value) : Prop := ∀ i y, i < k → xs[i]? = some y → L[i]? = some (.string y)
theorem Part.step {xs : List ByteArray} {k : Nat} {L : List Value} {y : ByteArray} (h : Part xs k L) (hy : xs[k]? = some y) (hk : k < L.length) : Part xs (k + 1) (L.set k (.string y)) := by
  intro i z hi hz
  by_cases e : i = k
  · subst e
    rw [hy] at hz
    cases hz
    simp [hk]
  · rw [List.getElem?_set_ne (Ne.symm e)]
    exact h i z (by omega) hz

/-- what a row of the call's own says of the strings in it -/
theorem sat_of_own {w : World} {base g n cap : Nat} {L : List Value} {xs : List ByteArray} (h : w.ownsRow base 9 1 (.slice (some ⟨g, 0, none⟩) n cap) n L) (hp : Part xs n L) (hn : xs.length = n) (hg : g < w.heap.size) : SAt w (some ⟨g, 0, none⟩) xs := by
  intro i y hy
  have hi : i < xs.length := by
    rcases Nat.lt_or_ge i xs.length with h | h
    · exact h
    · rw [List.getElem?_eq_none h] at hy; cases hy
  refine ⟨g, 0, rfl, hg, ?_⟩
  rw [Nat.zero_add, h.cellAt i (by omega)]
  exact hp i y (by omega) hy

theorem own_lt {w : World} {base e size g n cap : Nat} {L : List Value} (h : w.ownsRow base e size (.slice (some ⟨g, 0, none⟩) n cap) n L) : g < w.heap.size := by
  rcases h.2 with ⟨h', _⟩ | ⟨g', cap', cur, h', _, hg, _⟩
  · simp at h'
  · simp only [Value.slice.injEq, Option.some.injEq, Addr.mk.injEq, and_true, true_and] at h'
    obtain ⟨rfl, rfl⟩ := h'
    rcases Nat.lt_or_ge g w.heap.size with h | h
    · exact h
    · rw [Array.getElem?_eq_none h] at hg; cases hg

/-- what cloneStrings hands back -/
def Cloned (xs : List ByteArray) (w : World) (e : Ending) (w' : World) : Prop :=
  ∃ a' cap', e = .returned (.slice a' xs.length cap') ∧ xs.length ≤ cap' ∧ SAt w' a' xs ∧ Below w.heap.size w w'

set_option maxHeartbeats 1000000 in
theorem clone_any (a : Option Addr) (xs : List ByteArray) (cap : Nat) (w : World) (hs : SAt w a xs) (hl : xs.length ≤ 65536) (hnil : a = none → xs = []) (hcap : xs.length ≤ cap) :
    Calls Try.prog 11 #[.slice a xs.length cap] w (Cloned xs w) := by
  have q44 : ∀ (w : World) (a : Option Addr) (n c n' c' : Nat), (binOp .eql 44 (.slice a n c) (.slice none n' c')).run Try.prog w = .ok (.bool a.isNone) w := fun w a n c n' c' => Lib.run_eql_slice_nil w _ _ a n c n' c' Try.underlying44
  cases a with
  | none =>
    obtain rfl := hnil rfl
    clear hs hnil
    go_enter Try.func11, Try.ntmps11
    go_wp2
    go_ret
    exact ⟨none, 0, rfl, Nat.le_refl _, by intro i y hy; simp at hy, Below.refl _ _⟩
  | some ad =>
    obtain ⟨i0, hi, hz0, hz1, hz2⟩ := info_parts info9
    clear hnil
    go_enter Try.func11, Try.ntmps11
    go_wp2_with (at_make; refine wpList_make_full _ rfl _ _ 44 rfl w.heap.size 9 i0 (.string ⟨#[]⟩) 1 Try.underlying44 hi hz0 hz1 _ _ _ _ xs.length rfl rfl (by omega) (by omega) ?c1 ?c2 ?c3 ?_)
    case c1 => rw [hz2]; omega
    case c2 => unfold maxLen; omega
    case c3 => exact Nat.le_refl _
    intro w1 hown hgr
    have hb1 : Below w.heap.size w w1 := (Below.refl _ _).grown hgr (Nat.le_refl _) (by simp)
    have hz1' : w.heap.size < w1.heap.size := own_lt hown
    have hlen := hown.1
    clear hgr
    go_wp2
    go_loopw [4] (fun i wr => ∃ k : Nat, k ≤ xs.length ∧ i = .int .i64 k ∧ w.heap.size < wr.heap.size ∧ Below w.heap.size w wr ∧ ∃ L, wr.ownsRow w.heap.size 9 1 (.slice (some ⟨w.heap.size, 0, none⟩) xs.length xs.length) xs.length L ∧ Part xs k L) (fun i _ => xs.length - (intOf i).toNat)
    case atStart => exact ⟨0, Nat.zero_le _, rfl, hz1', hb1, _, hown, fun i y h => by omega⟩
    case round =>
      clear hown hb1 hz1'
      obtain ⟨k, hk, rfl, hzr, hbr, L, hown, hpart⟩ := hrel
      by_cases hlt : k < xs.length
      · obtain ⟨y, hy⟩ : ∃ y, xs[k]? = some y := ⟨_, List.getElem?_eq_getElem hlt⟩
        obtain ⟨b, off, had, hblt, hc⟩ := hs k y hy
        cases had
        have hcr : wr.cell? ⟨b, off + k, none⟩ = some (.string y) := (hbr.cell (p := ⟨b, off + k, none⟩) hblt).trans hc
        have hLk : k < L.length := by have := hown.1; omega
        have hcd : wr.cell? ⟨w.heap.size, k, none⟩ = some L[k] := by rw [hown.cellAt k (by omega), List.getElem?_eq_getElem hLk]
        have hfd := hown.frozenAt k
        have HO := hown.stored k (.string y)
        have HP : Hid (Part xs (k + 1) (L.set k (.string y))) := hpart.step hy hLk
        have HOW : Hid ((wr.setCell ⟨w.heap.size, k, none⟩ (.string y)).ownsRow w.heap.size 9 1 (.slice (some ⟨w.heap.size, 0, none⟩) xs.length xs.length) xs.length (L.set k (.string y))) := HO.1
        have HB : Hid (Below w.heap.size w (wr.setCell ⟨w.heap.size, k, none⟩ (.string y))) := hbr.setCell (Nat.le_refl _) _
        clear hs hc hpart hown hbr HO hy
        go_wp2
        go_roundw
        case rel => exact ⟨k + 1, by omega, by go_num, by rw [World.size_setCell]; exact hzr, HB.out, _, HOW.out, HP.out⟩
        case measure => simp [intOf]; omega
      · have HS : Hid (SAt wr (some ⟨w.heap.size, 0, none⟩) xs) := by
          have hkx : k = xs.length := by omega
          rw [hkx] at hpart
          exact sat_of_own hown hpart rfl hzr
        clear hs hpart hown
        go_wp2
        go_ret
        exact ⟨_, _, rfl, Nat.le_refl _, HS.out, hbr⟩

end Go.Proofs.Qxb6605295a
