import Derived.Test.Qxb6605295aRows
import Derived.WalkKit
import Derived.WalkSpells
import Derived.WalkLawsBesides
namespace Go.Proofs.Qxb6605295a
open Go.RowKit

/-- the strings xs lie from the address a on -/
def SAt (w : World) (a : Option Addr) (xs : List ByteArray) : Prop :=
  ∀ i y, xs[i]? = some y → ∃ b off, a = some ⟨b, off, none⟩ ∧ b < w.heap.size ∧ w.cell? ⟨b, off + i, none⟩ = some (.string y)
theorem SAt.kept {w w' : World} {a : Option Addr} {xs : List ByteArray} (h : SAt w a xs) (hb : Below w.heap.size w w') : SAt w' a xs := fun i y hy => by
  obtain ⟨b, off, ha, hlt, hc⟩ := h i y hy
  exact ⟨b, off, ha, Nat.lt_of_lt_of_le hlt hb.size, (hb.cell (p := ⟨b, off + i, none⟩) hlt).trans hc⟩

/-- what the guard on lengths says: a bool; where it is true no string is longer than 2^20 -/
def Guard (xs : List ByteArray) (w : World) (e : Ending) (w' : World) : Prop :=
  ∃ b, e = .returned (.bool b) ∧ w' = w ∧ (b = true → ∀ y ∈ xs, y.size ≤ 1048576)

theorem mem_take_succ {xs : List ByteArray} {k : Nat} {y : ByteArray} (hy : xs[k]? = some y) (h : ∀ z ∈ xs.take k, z.size ≤ 1048576) (h1 : y.size ≤ 1048576) : ∀ z ∈ xs.take (k + 1), z.size ≤ 1048576 := by
  intro z hz
  rw [List.take_add_one, hy] at hz
  simp at hz
  rcases hz with hz | rfl
  · exact h z hz
  · exact h1

set_option maxHeartbeats 1000000 in
theorem bytesModel_any (a : Option Addr) (xs : List ByteArray) (cap : Nat) (w : World) (hs : SAt w a xs) :
    Calls Try.prog 10 #[.slice a xs.length cap] w (Guard xs w) := by
  by_cases hl : (1048576 : Int) < (xs.length : Int)
  · go_enter Try.func10, Try.ntmps10
    go_wp2
    go_ret
    exact ⟨false, rfl, rfl, by simp⟩
  go_enter Try.func10, Try.ntmps10
  go_wp2
  go_loop [3, 4] (fun n i => ∃ k : Nat, k ≤ xs.length ∧ i = .int .i64 k ∧ (∃ z, n = .int .i64 z) ∧ ∀ y ∈ xs.take k, y.size ≤ 1048576) (fun _ i => xs.length - (intOf i).toNat)
  case atStart => exact ⟨0, Nat.zero_le _, rfl, ⟨_, rfl⟩, by simp⟩
  case round =>
    obtain ⟨k, hk, rfl, ⟨z, rfl⟩, hall⟩ := hrel
    by_cases hlt : k < xs.length
    · obtain ⟨y, hy⟩ : ∃ y, xs[k]? = some y := ⟨_, List.getElem?_eq_getElem hlt⟩
      obtain ⟨b, off, rfl, hblt, hc⟩ := hs k y hy
      by_cases hyl : (1048576 : Int) < (y.size : Int)
      · have HA : Hid (∀ y ∈ xs.take k, y.size ≤ 1048576) := hall
        clear hall hy hs
        go_wp2
        go_ret
        exact ⟨false, rfl, rfl, by simp⟩
      · have HA : Hid (∀ y ∈ xs.take (k + 1), y.size ≤ 1048576) := mem_take_succ hy hall (by omega)
        clear hall hy hs
        go_wp2
        · go_ret
          exact ⟨false, rfl, rfl, by simp⟩
        · go_round
          case rel => exact ⟨k + 1, by omega, by go_num, ⟨_, rfl⟩, HA.out⟩
          case measure => simp [intOf]; omega
    · have HA : Hid (∀ y ∈ xs, y.size ≤ 1048576) := by rw [List.take_of_length_le (by omega)] at hall; exact hall
      clear hall hs
      go_wp2
      go_ret
      exact ⟨true, rfl, rfl, fun _ => HA.out⟩

end Go.Proofs.Qxb6605295a
