import Derived.Test.Qxb6605295aLc
import Derived.Test.Qxb6605295aLd
namespace Go.Proofs.Qxb6605295a
open Go.RowKit

/-! THE PLAIN LAW OF THE MODEL: the answer, read from the left -/

/-- what stands ahead of item i of n -/
def sepL (n i : Nat) : List UInt8 := if i = 0 then [] else if i + 1 = n then [32, 111, 114, 32] else [44, 32]
/-- the first k items with what stands ahead of each -/
def preL (n : Nat) (xs : List ByteArray) : Nat → List UInt8
  | 0 => []
  | k + 1 => preL n xs k ++ sepL n k ++ (xs.getD k ⟨#[]⟩).data.toList
def posK (n : Nat) (xs : List ByteArray) (k : Nat) : Nat := (preL n xs k).length

theorem preL_mid (n : Nat) (y : ByteArray) (r : List ByteArray) (xs : List ByteArray) (hn : r.length + 2 ≤ n) (h0 : xs.getD 0 ⟨#[]⟩ = y) (hr : ∀ (k : Nat) z, r[k]? = some z → xs.getD (k + 1) ⟨#[]⟩ = z) :
    ∀ k, k ≤ r.length → preL n xs (k + 1) = y.data.toList ++ Lib.joinTail [44, 32] ((r.map (fun y : ByteArray => y.data.toList)).take k) := by
  intro k
  induction k with
  | zero =>
    intro _
    rw [preL, h0]
    simp [preL, sepL, Lib.joinTail]
  | succ k ih =>
    intro hk
    have hz : r[k]? = some r[k] := List.getElem?_eq_getElem (by omega)
    rw [Lib.joinTail_take_succ [44, 32] _ k r[k].data.toList (by rw [List.getElem?_map, hz]; rfl)]
    rw [preL, ih (by omega), hr k _ hz]
    have e : sepL n (k + 1) = [44, 32] := by unfold sepL; rw [if_neg (by omega), if_neg (by omega)]
    rw [e]
    simp [List.append_assoc]

theorem split_last (xs : List ByteArray) (h : 1 ≤ xs.length) : ∃ ys z, xs = ys ++ [z] := by
  have hne : xs ≠ [] := by rintro rfl; simp at h
  exact ⟨_, _, (List.dropLast_concat_getLast hne).symm⟩

/-- all items: the whole answer -/
theorem preL_all (xs : List ByteArray) (h : 1 ≤ xs.length) : preL xs.length xs xs.length = (orB xs).data.toList := by
  obtain ⟨ys, z, rfl⟩ := split_last xs h
  cases ys with
  | nil => simp [preL, sepL, orB_one]
  | cons y r =>
    rw [orB_more (y :: r) z (by simp)]
    have e : ((y :: r) ++ [z]).length = r.length + 1 + 1 := by simp
    rw [e, preL]
    rw [preL_mid (r.length + 1 + 1) y r _ (by omega) (by simp) (fun k w hw => by
      have hk : k < r.length := lt_of_get hw
      have : ((y :: r) ++ [z])[k + 1]? = some w := by simp [List.getElem?_append_left hk, hw]
      rw [List.getD_eq_getElem?_getD, this]; rfl) r.length (Nat.le_refl _)]
    have e2 : sepL (r.length + 1 + 1) (r.length + 1) = [32, 111, 114, 32] := by simp [sepL]
    have e3 : ((y :: r) ++ [z]).getD (r.length + 1) ⟨#[]⟩ = z := by simp
    rw [e2, e3, List.map_cons, Lib.join_cons, List.take_of_length_le (by simp)]
    obtain ⟨⟨lz⟩⟩ := z
    simp [List.append_assoc]

/-- more items: what stands there begins with what stood there -/
theorem preL_le (n : Nat) (xs : List ByteArray) (k m : Nat) (h : k ≤ m) : ∃ R, preL n xs m = preL n xs k ++ R := by
  induction m with
  | zero => obtain rfl : k = 0 := by omega
            exact ⟨[], by simp⟩
  | succ m ih =>
    by_cases e : k = m + 1
    · subst e; exact ⟨[], by simp⟩
    · obtain ⟨R, hR⟩ := ih (by omega)
      exact ⟨R ++ sepL n m ++ (xs.getD m ⟨#[]⟩).data.toList, by rw [preL, hR]; simp [List.append_assoc]⟩

theorem stands_of {s t : ByteArray} {A R : List UInt8} (h : s.data.toList = A ++ t.data.toList ++ R) : StandsAt s A.length t := by
  have hsz : s.size = A.length + t.size + R.length := by
    have := congrArg List.length h
    simp only [List.length_append, Array.length_toList] at this
    exact this
  refine ⟨by omega, fun i hi hj => ?_⟩
  have h1 : s.data.toList[A.length + i]? = t.data.toList[i]? := by
    rw [h, List.append_assoc, List.getElem?_append_right (by omega), Nat.add_sub_cancel_left, List.getElem?_append_left (by simpa using hi)]
  have e1 : s.data.toList[A.length + i]? = some s[A.length + i] := by
    rw [List.getElem?_eq_getElem (by simpa using hj)]; rfl
  have e2 : t.data.toList[i]? = some t[i] := by
    rw [List.getElem?_eq_getElem (by simpa using hi)]; rfl
  rw [e1, e2] at h1
  exact Option.some.inj h1

/-- the item k stands at its place -/
theorem item_stands (xs : List ByteArray) (k : Nat) (y : ByteArray) (h : xs[k]? = some y) : StandsAt (orB xs) (posK xs.length xs k + (sepL xs.length k).length) y := by
  have hk := lt_of_get h
  obtain ⟨R, hR⟩ := preL_le xs.length xs (k + 1) xs.length (by omega)
  rw [preL_all xs (by omega), preL, List.getD_eq_getElem?_getD, h] at hR
  have := stands_of (A := preL xs.length xs k ++ sepL xs.length k) (t := y) hR
  rwa [List.length_append] at this
/-- and so does what stands ahead of it -/
theorem sep_stands (xs : List ByteArray) (k : Nat) (hk : k < xs.length) (t : ByteArray) (ht : t.data.toList = sepL xs.length k) : StandsAt (orB xs) (posK xs.length xs k) t := by
  obtain ⟨R, hR⟩ := preL_le xs.length xs (k + 1) xs.length (by omega)
  rw [preL_all xs (by omega), preL] at hR
  exact stands_of (A := preL xs.length xs k) (t := t) (R := (xs.getD k ⟨#[]⟩).data.toList ++ R) (by rw [hR, ht]; simp [List.append_assoc])
theorem posK_succ (xs : List ByteArray) (k : Nat) (y : ByteArray) (h : xs[k]? = some y) : posK xs.length xs (k + 1) = posK xs.length xs k + (sepL xs.length k).length + y.size := by
  unfold posK
  rw [preL, List.getD_eq_getElem?_getD, h]
  simp only [List.length_append]
  rfl
theorem posK_all (xs : List ByteArray) (h : 1 ≤ xs.length) : posK xs.length xs xs.length = (orB xs).size := by
  unfold posK
  rw [preL_all xs h]; rfl
theorem posK_le (xs : List ByteArray) (k : Nat) (h : 1 ≤ xs.length) (hk : k ≤ xs.length) : posK xs.length xs k ≤ (orB xs).size := by
  rw [← posK_all xs h]
  obtain ⟨R, hR⟩ := preL_le xs.length xs k xs.length hk
  unfold posK
  rw [hR, List.length_append]; omega

/-- the closed form of the length -/
theorem orB_size_one (xs : List ByteArray) (h : xs.length = 1) : (orB xs).size = tot xs := by
  obtain ⟨y, rfl⟩ := List.length_eq_one_iff.1 h
  rw [orB_one]; simp [tot]
theorem orB_size_more (xs : List ByteArray) (h : 2 ≤ xs.length) : ((orB xs).size : Int) = (tot xs : Int) + 2 * ((xs.length : Int) - 2) + 4 := by
  obtain ⟨ys, z, rfl⟩ := split_last xs (by omega)
  cases ys with
  | nil => simp at h
  | cons y r =>
    rw [orB_more (y :: r) z (by simp), ByteArray.size_append, ByteArray.size_append, tot_append, tot_cons]
    have e1 : (⟨(Lib.join ((y :: r).map (fun y : ByteArray => y.data.toList)) [44, 32]).toArray⟩ : ByteArray).size = y.size + (2 * r.length + tot r) := by
      show (Lib.join ((y :: r).map (fun y : ByteArray => y.data.toList)) [44, 32]).length = _
      rw [List.map_cons, Lib.join_cons, List.length_append, Lib.joinTail_length, tot_lens]
      simp only [List.length_cons, List.length_nil, List.length_map, Array.length_toList]
      rfl
    have e2 : (⟨#[32, 111, 114, 32]⟩ : ByteArray).size = 4 := rfl
    have e3 : tot [z] = z.size := by simp [tot]
    rw [e1, e2, e3]
    simp only [List.length_append, List.length_cons, List.length_nil]
    omega

theorem orB_size_le (xs : List ByteArray) (h : 1 ≤ xs.length) : (orB xs).size ≤ tot xs + 2 * xs.length + 4 := by
  by_cases e : xs.length = 1
  · rw [orB_size_one xs e]; omega
  · have := orB_size_more xs (by omega); omega

end Go.Proofs.Qxb6605295a
