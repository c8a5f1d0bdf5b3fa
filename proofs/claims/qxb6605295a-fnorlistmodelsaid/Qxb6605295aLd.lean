import Derived.Test.Qxb6605295aLa
import Derived.Test.Qxb6605295aShelf
import Derived.Deep.RegionWith
namespace Go.Proofs.Qxb6605295a
open Go.RowKit

/-- the bytes of orList: the one item; else all but the last joined by a comma and a blank, then the word or, then the last -/
def orL (xs : List ByteArray) : List UInt8 :=
  if xs.length = 1 then (xs.getD 0 ⟨#[]⟩).data.toList
  else Lib.join (xs.dropLast.map (·.data.toList)) [44, 32] ++ [32, 111, 114, 32] ++ (xs.getD (xs.length - 1) ⟨#[]⟩).data.toList

set_option maxHeartbeats 1000000 in
theorem orList_one (b off cap : Nat) (y : ByteArray) (w : World) (hc : w.cell? ⟨b, off, none⟩ = some (.string y)) :
    Calls Try.prog 16 #[.slice (some ⟨b, off, none⟩) 1 cap] w fun e w' => e = .returned (.string y) ∧ w' = w := by
  go_enter Try.func16, Try.ntmps16
  go_wp2
  go_ret
  exact ⟨rfl, rfl⟩

set_option maxHeartbeats 1000000 in
theorem orList_more (b off cap : Nat) (ys : List ByteArray) (z : ByteArray) (w : World) (hm1 : 1 ≤ ys.length) (hm2 : ys.length ≤ 1000000) (hcap : ys.length + 1 ≤ cap) (hblt : b < w.heap.size)
    (hc : ∀ (j : Nat) x, ys[j]? = some x → w.cell? ⟨b, off + j, none⟩ = some (.string x)) (hz : w.cell? ⟨b, off + ys.length, none⟩ = some (.string z))
    (hlen : (Lib.join (ys.map (fun y : ByteArray => y.data.toList)) [44, 32]).length ≤ 100000000) (hzl : z.size ≤ 100000000) :
    Calls Try.prog 16 #[.slice (some ⟨b, off, none⟩) (ys.length + 1) cap] w fun e w' => e = .returned (.string (⟨(Lib.join (ys.map (fun y : ByteArray => y.data.toList)) [44, 32]).toArray⟩ ++ ⟨#[32, 111, 114, 32]⟩ ++ z)) ∧ Below w.heap.size w w' := by
  have h1 : (((ys.length : Int) + 1) == 1) = false := by simp; omega
  have cJ := fun (W : World) (hW : Below w.heap.size w W) => Try.strings_Join b off cap ys ⟨#[44, 32]⟩ W (fun j x hx => (hW.cell (p := ⟨b, off + j, none⟩) hblt).trans (hc j x hx)) (Nat.lt_of_lt_of_le hblt hW.size) (by omega) (by omega) (by show _ ≤ _; exact Nat.le_trans hlen (by omega))
  have CJ : Hid _ := cJ
  have hwr : IntKind.i64.wrap (ys.length : Int) = (ys.length : Int) := by rw [IntKind.wrap_i64]; omega
  have hcI : (ys.length : Int) ≤ (cap : Int) := by omega
  have hcN : ys.length ≤ cap := by omega
  have hc0 : ¬ cap = 0 := by omega
  clear cJ hc
  go_enter Try.func16, Try.ntmps16
  go_wp2
  go_region_with (go_at_call 17; refine (CJ.out _ (by first | exact Below.refl _ _ | exact (Below.refl _ _).drew)).mono ?_; rintro e w1 ⟨rfl, hb⟩; have hz1 : w1.cell? ⟨b, off + ys.length, none⟩ = some (.string z) := (hb.cell (p := ⟨b, off + ys.length, none⟩) hblt).trans hz)
  all_goals
    go_wp2
    go_ret
    exact ⟨rfl, ((Below.refl _ _).drew).trans hb⟩

/-- the string that orList hands back -/
def orB (xs : List ByteArray) : ByteArray := ⟨(orL xs).toArray⟩

theorem orB_one (y : ByteArray) : orB [y] = y := by
  obtain ⟨⟨l⟩⟩ := y
  simp [orB, orL]
theorem orB_more (ys : List ByteArray) (z : ByteArray) (h : 1 ≤ ys.length) : orB (ys ++ [z]) = ⟨(Lib.join (ys.map (fun y : ByteArray => y.data.toList)) [44, 32]).toArray⟩ ++ ⟨#[32, 111, 114, 32]⟩ ++ z := by
  have e : ¬ ys = [] := by rintro rfl; simp at h
  obtain ⟨⟨l⟩⟩ := z
  simp [orB, orL, e, ByteArray.ext_iff]

/-- what orList hands back -/
def Ored (xs : List ByteArray) (w : World) (e : Ending) (w' : World) : Prop := e = .returned (.string (orB xs)) ∧ Below w.heap.size w w'

theorem lt_of_get {xs : List ByteArray} {i : Nat} {y : ByteArray} (h : xs[i]? = some y) : i < xs.length := by
  rcases Nat.lt_or_ge i xs.length with h' | h'
  · exact h'
  · rw [List.getElem?_eq_none h'] at h; cases h
theorem SAt.addr {w : World} {a : Option Addr} {xs : List ByteArray} (h : SAt w a xs) (h0 : 0 < xs.length) :
    ∃ b off, a = some ⟨b, off, none⟩ ∧ b < w.heap.size ∧ ∀ (i : Nat) y, xs[i]? = some y → w.cell? ⟨b, off + i, none⟩ = some (.string y) := by
  obtain ⟨b, off, ha, hb, _⟩ := h 0 _ (List.getElem?_eq_getElem h0)
  refine ⟨b, off, ha, hb, fun i y hy => ?_⟩
  obtain ⟨b', off', ha', _, hc⟩ := h i y hy
  rw [ha] at ha'
  simp only [Option.some.injEq, Addr.mk.injEq, and_true] at ha'
  obtain ⟨rfl, rfl⟩ := ha'
  exact hc

/-- the strings' sizes, added up -/
def tot (xs : List ByteArray) : Nat := (xs.map (·.size)).sum
theorem tot_lens (xs : List ByteArray) : Lib.lens (xs.map (fun y : ByteArray => y.data.toList)) = tot xs := by
  simp only [Lib.lens, tot, List.map_map]
  congr 1
theorem tot_append (xs ys : List ByteArray) : tot (xs ++ ys) = tot xs + tot ys := by simp [tot]
theorem tot_cons (x : ByteArray) (xs : List ByteArray) : tot (x :: xs) = x.size + tot xs := by simp [tot]
theorem tot_take_succ (xs : List ByteArray) (k : Nat) (y : ByteArray) (h : xs[k]? = some y) : tot (xs.take (k + 1)) = tot (xs.take k) + y.size := by
  rw [List.take_add_one, h]
  simp [tot]
theorem join_le (xs : List ByteArray) : (Lib.join (xs.map (fun y : ByteArray => y.data.toList)) [44, 32]).length ≤ tot xs + 2 * xs.length := by
  cases xs with
  | nil => simp [Lib.join_nil]
  | cons x r =>
    rw [List.map_cons, Lib.join_cons, List.length_append, Lib.joinTail_length, tot_lens, tot_cons]
    simp only [List.length_cons, List.length_nil, List.length_map, Array.length_toList]
    have : x.data.size = x.size := rfl
    omega

theorem orList_any (a : Option Addr) (xs : List ByteArray) (cap : Nat) (w : World) (hs : SAt w a xs) (h1 : 1 ≤ xs.length) (h2 : xs.length ≤ 1000000) (hcap : xs.length ≤ cap) (hlen : tot xs ≤ 10000000) :
    Calls Try.prog 16 #[.slice a xs.length cap] w (Ored xs w) := by
  obtain ⟨b, off, rfl, hb, hc⟩ := hs.addr h1
  by_cases e : xs.length = 1
  · obtain ⟨y, rfl⟩ : ∃ y, xs = [y] := List.length_eq_one_iff.1 e
    refine (orList_one b off cap y w (by simpa using hc 0 y rfl)).mono ?_
    rintro e w' ⟨rfl, rfl⟩
    exact ⟨by rw [orB_one], Below.refl _ _⟩
  · have hne : xs ≠ [] := by rintro rfl; simp at h1
    have hd : xs = xs.dropLast ++ [xs.getLast hne] := (List.dropLast_concat_getLast hne).symm
    obtain ⟨ys, z, rfl⟩ : ∃ ys z, xs = ys ++ [z] := ⟨_, _, hd⟩
    clear hd
    simp only [List.length_append, List.length_cons, List.length_nil] at e h2 hcap
    have hj := join_le ys
    rw [tot_append] at hlen
    have hz : tot [z] = z.size := by simp [tot]
    have hcy : ∀ (j : Nat) x, ys[j]? = some x → w.cell? ⟨b, off + j, none⟩ = some (.string x) := fun j x hx => hc j x (by rw [List.getElem?_append_left (lt_of_get hx)]; exact hx)
    have := orList_more b off cap ys z w (by omega) (by omega) (by omega) hb hcy (hc ys.length z (by simp)) (by omega) (by omega)
    simp only [List.length_append, List.length_cons, List.length_nil]
    refine this.mono ?_
    rintro e w' ⟨rfl, hbel⟩
    exact ⟨by rw [orB_more ys z (by omega)], hbel⟩

set_option maxHeartbeats 1000000 in
theorem zzOrList_any (a : Option Addr) (xs : List ByteArray) (cap : Nat) (w : World) (hs : SAt w a xs) (h1 : 1 ≤ xs.length) (h2 : xs.length ≤ 1000000) (hcap : xs.length ≤ cap) (hlen : tot xs ≤ 10000000) :
    Calls Try.prog 12 #[.slice a xs.length cap] w (Ored xs w) := by
  go_enter Try.func12, Try.ntmps12
  go_wp2_with fail
  refine (orList_any a xs cap w hs h1 h2 hcap hlen).mono ?_
  rintro e w1 ⟨rfl, hb⟩
  go_wp2
  go_ret
  exact ⟨rfl, hb⟩

end Go.Proofs.Qxb6605295a
