import Derived.Test.Qxb6605298aRows
import Derived.WalkKit
namespace Go.Proofs.Qxb6605298a

/-! THE PLAIN FUNCTIONS AND THE PLAIN LAW -/
/-- an ASCII digit -/
def isDig (c : UInt8) : Bool := decide (48 ≤ (c.toNat : Int)) && decide ((c.toNat : Int) ≤ 57)
/-- behind the point -/
def fB : Bool → List UInt8 → Bool
  | seen, [] => seen
  | _, c :: r => if isDig c then fB true r else false
/-- ahead of the point -/
def fA : Bool → List UInt8 → Bool
  | seen, [] => seen
  | seen, c :: r => if isDig c then fA true r else if c = 46 ∧ seen = true then fB false r else false
/-- a decimal, as the state machine has it -/
def isDec (l : List UInt8) : Bool := fA false l
def digE (l : List UInt8) : Bool := l.all isDig
def digO (l : List UInt8) : Bool := decide (0 < l.length) && digE l
/-- the place of the first point -/
def fst46 : List UInt8 → Nat
  | [] => 0
  | c :: r => if c = 46 then 0 else fst46 r + 1
/-- how many points -/
def pts : List UInt8 → Nat
  | [] => 0
  | c :: r => (if c = 46 then 1 else 0) + pts r
/-- a decimal, as the parts have it -/
def parts (l : List UInt8) : Bool :=
  if pts l = 0 then digO l else if 1 < pts l then false else digO (l.take (fst46 l)) && digO (l.drop (fst46 l + 1))

theorem dig46 {c : UInt8} (h : isDig c = true) : c ≠ 46 := by
  rintro rfl
  revert h
  decide
theorem fB_eq (s : Bool) (l : List UInt8) : fB s l = (digE l && (s || decide (0 < l.length))) := by
  induction l generalizing s with
  | nil => simp [fB, digE]
  | cons c r ih =>
    simp only [fB, digE, List.all_cons, List.length_cons]
    by_cases h : isDig c = true
    · rw [if_pos h, ih, h]; simp [digE]
    · rw [if_neg h]; simp at h; simp [h]
theorem fA_none (s : Bool) (l : List UInt8) (h : pts l = 0) : fA s l = (digE l && (s || decide (0 < l.length))) := by
  induction l generalizing s with
  | nil => simp [fA, digE]
  | cons c r ih =>
    have h1 : c ≠ 46 := by rintro rfl; simp [pts] at h
    have h2 : pts r = 0 := by simp [pts, h1] at h; exact h
    simp only [fA, digE, List.all_cons, List.length_cons]
    by_cases hd : isDig c = true
    · rw [if_pos hd, ih _ h2, hd]; simp [digE]
    · rw [if_neg hd, if_neg (by simp [h1])]; simp at hd; simp [hd]
theorem fA_dot (s : Bool) (a b : List UInt8) (h : pts a = 0) : fA s (a ++ 46 :: b) = (digE a && (s || decide (0 < a.length)) && fB false b) := by
  induction a generalizing s with
  | nil =>
    have hd : ¬ isDig 46 = true := by decide
    cases s <;> simp [fA, digE, hd]
  | cons c r ih =>
    have h1 : c ≠ 46 := by rintro rfl; simp [pts] at h
    have h2 : pts r = 0 := by simp [pts, h1] at h; exact h
    simp only [List.cons_append, fA, digE, List.all_cons, List.length_cons]
    by_cases hd : isDig c = true
    · rw [if_pos hd, ih _ h2, hd]; simp [digE]
    · rw [if_neg hd, if_neg (by simp [h1])]; simp at hd; simp [hd]
theorem split46 (l : List UInt8) (h : pts l ≠ 0) : l = l.take (fst46 l) ++ 46 :: l.drop (fst46 l + 1) ∧ pts (l.take (fst46 l)) = 0 ∧ pts l = 1 + pts (l.drop (fst46 l + 1)) := by
  induction l with
  | nil => simp [pts] at h
  | cons c r ih =>
    by_cases hc : c = 46
    · subst hc; simp [fst46, pts]
    · have h2 : pts r ≠ 0 := by simpa [pts, hc] using h
      obtain ⟨e1, e2, e3⟩ := ih h2
      simp only [fst46, hc, if_false, List.take_succ_cons, List.drop_succ_cons, List.cons_append, pts, Nat.zero_add]
      exact ⟨congrArg _ e1, e2, e3⟩
theorem digE_pts {l : List UInt8} (h : pts l ≠ 0) : digE l = false := by
  induction l with
  | nil => simp [pts] at h
  | cons c r ih =>
    by_cases hc : c = 46
    · subst hc
      have : isDig 46 = false := by decide
      simp [digE, this]
    · have h2 : pts r ≠ 0 := by simpa [pts, hc] using h
      have := ih h2
      simp only [digE, List.all_cons] at this ⊢
      rw [this]; simp
theorem digE_none {l : List UInt8} (h : digE l = true) : pts l = 0 := by
  rcases Nat.eq_zero_or_pos (pts l) with h' | h'
  · exact h'
  · rw [digE_pts (by omega)] at h; cases h
/-- THE LAW OF THE FIRST STATEMENT -/
theorem dec_parts (l : List UInt8) : isDec l = parts l := by
  unfold isDec parts
  by_cases h : pts l = 0
  · rw [if_pos h, fA_none false l h]; simp [digO, Bool.and_comm]
  · rw [if_neg h]
    obtain ⟨e1, e2, e3⟩ := split46 l h
    have e4 : fA false l = (digE (l.take (fst46 l)) && decide (0 < (l.take (fst46 l)).length) && fB false (l.drop (fst46 l + 1))) := by
      have := fA_dot false (l.take (fst46 l)) (l.drop (fst46 l + 1)) e2
      rw [← e1] at this
      simpa using this
    rw [e4, fB_eq]
    by_cases h1 : 1 < pts l
    · rw [if_pos h1, digE_pts (l := l.drop (fst46 l + 1)) (by omega)]; simp
    · rw [if_neg h1]; simp [digO, Bool.and_comm]
/-- THE LAWS OF THE SECOND -/
theorem dec_whole (i : List UInt8) (hi : digE i = true) : isDec i = decide (0 < i.length) := by
  unfold isDec; rw [fA_none false i (digE_none hi), hi]; simp
theorem dec_frac (i f : List UInt8) (hi : digE i = true) (hf : digE f = true) : isDec (i ++ 46 :: f) = (decide (0 < i.length) && decide (0 < f.length)) := by
  unfold isDec; rw [fA_dot false i f (digE_none hi), fB_eq, hi, hf]; simp
theorem dec_lead (i : List UInt8) : isDec (46 :: i) = false := by
  have hd : ¬ isDig 46 = true := by decide
  simp [isDec, fA, hd]
theorem dec_two (i f : List UInt8) (hi : digE i = true) : isDec (i ++ 46 :: (f ++ 46 :: f)) = false := by
  have e : pts (f ++ 46 :: f) ≠ 0 := by
    have : ∀ a : List UInt8, pts (a ++ 46 :: f) ≠ 0 := by
      intro a
      induction a with
      | nil => simp [pts]
      | cons c r ih => simp only [List.cons_append, pts]; omega
    exact this f
  unfold isDec; rw [fA_dot false i _ (digE_none hi), fB_eq, digE_pts e]; simp

/-! the loops' own lists -/
theorem drop_cons (l : List UInt8) (k : Nat) (c : UInt8) (h : l[k]? = some c) : l.drop k = c :: l.drop (k + 1) := by
  have hk : k < l.length := by
    rcases Nat.lt_or_ge k l.length with h' | h'
    · exact h'
    · rw [List.getElem?_eq_none h'] at h; cases h
  rw [List.drop_eq_getElem_cons hk]
  rw [List.getElem?_eq_getElem hk] at h
  rw [Option.some.inj h]
theorem pts_append (a b : List UInt8) : pts (a ++ b) = pts a + pts b := by
  induction a with
  | nil => simp [pts]
  | cons c r ih => simp only [List.cons_append, pts, ih]; omega
theorem pts_take_succ (l : List UInt8) (k : Nat) (c : UInt8) (h : l[k]? = some c) : pts (l.take (k + 1)) = pts (l.take k) + if c = 46 then 1 else 0 := by
  rw [List.take_add_one, h, pts_append]; simp [pts]
theorem pts_take_le (l : List UInt8) (k : Nat) : pts (l.take k) ≤ k := by
  induction l generalizing k with
  | nil => simp [pts]
  | cons c r ih =>
    cases k with
    | zero => simp [pts]
    | succ k => simp only [List.take_succ_cons, pts]; have := ih k; split <;> omega
theorem fst46_at (l : List UInt8) (k : Nat) (h : l[k]? = some 46) (h0 : pts (l.take k) = 0) : fst46 l = k := by
  induction l generalizing k with
  | nil => simp at h
  | cons c r ih =>
    cases k with
    | zero => simp at h; simp [fst46, h]
    | succ k =>
      simp only [List.take_succ_cons, pts] at h0
      have hc : c ≠ 46 := by rintro rfl; simp at h0
      simp only [fst46, hc, if_false]
      rw [ih k (by simpa using h) (by omega)]
theorem fst46_lt (l : List UInt8) (h : pts l ≠ 0) : fst46 l < l.length := by
  induction l with
  | nil => simp [pts] at h
  | cons c r ih =>
    by_cases hc : c = 46
    · simp [fst46, hc]
    · have := ih (by simpa [pts, hc] using h)
      simp [fst46, hc]; exact this

end Go.Proofs.Qxb6605298a
