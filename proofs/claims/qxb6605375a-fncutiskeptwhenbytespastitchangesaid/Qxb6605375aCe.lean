import Derived.Test.Qxb6605375aCd
namespace Go.Proofs.Qxb6605375a
open Go.RowKit

/-! THE PLAIN LAW: bytes past a cut do not move it -/
theorem hsh_congr (zs zs' gs : List Int) (E k : Nat) (h : ∀ j, j < k → zs.getD (E + j) 0 = zs'.getD (E + j) 0) : hsh zs gs E k = hsh zs' gs E k := by
  induction k with
  | zero => rfl
  | succ k ih => rw [hsh, hsh, ih fun j hj => h j (by omega), h k (by omega)]
theorem hit_congr (zs zs' gs : List Int) (E : Nat) (avg small large : Int) (i : Nat) (hi : E ≤ i) (h : ∀ j, j ≤ i → zs.getD j 0 = zs'.getD j 0) : hit zs gs E avg small large i = hit zs' gs E avg small large i := by
  unfold hit
  rw [hsh_congr zs zs' gs E (i - E + 1) fun j hj => h (E + j) (by omega)]
theorem hit_append (zs ts gs : List Int) (E : Nat) (avg small large : Int) (i : Nat) (hi : E ≤ i) (hn : i < zs.length) : hit (zs ++ ts) gs E avg small large i = hit zs gs E avg small large i :=
  hit_congr _ _ gs E avg small large i hi fun j hj => by
    rw [List.getD_eq_getElem?_getD, List.getD_eq_getElem?_getD, List.getElem?_append_left (by omega)]
theorem hit_take (zs gs : List Int) (m E : Nat) (avg small large : Int) (i : Nat) (hi : E ≤ i) (hn : i < m) : hit (zs.take m) gs E avg small large i = hit zs gs E avg small large i :=
  hit_congr _ _ gs E avg small large i hi fun j hj => by
    rw [List.getD_eq_getElem?_getD, List.getD_eq_getElem?_getD, List.getElem?_take, if_pos (by omega)]

theorem first_same {ht ht' : Nat → Bool} {E r r' c c' : Nat} (h : FirstHit ht E r c) (h' : FirstHit ht' E r' c') (hag : ∀ j, E ≤ j → j < r → ht' j = ht j) (hlt : c < r → c < 2 * (r' / 2)) (heq : c = r → r' = r) : c' = c := by
  rcases h with ⟨h1, h2, h3, h4⟩ | ⟨h1, h2⟩
  · have hcr : c < r := by omega
    have hcr' := hlt hcr
    rcases h' with ⟨g1, g2, g3, g4⟩ | ⟨g1, g2⟩
    · rcases Nat.lt_trichotomy c' c with hl | hl | hl
      · rw [hag c' g1 (by omega), h4 c' g1 hl] at g3; cases g3
      · exact hl
      · have := g4 c h1 hl; rw [hag c h1 hcr, h3] at this; cases this
    · have := g2 c h1 hcr'; rw [hag c h1 hcr, h3] at this; cases this
  · obtain rfl := heq h1
    rcases h' with ⟨g1, g2, g3, g4⟩ | ⟨g1, g2⟩
    · rw [hag c' g1 (by omega), h2 c' g1 g2] at g3; cases g3
    · omega
theorem first_le {ht ht' : Nat → Bool} {E r r' c c' : Nat} (h : FirstHit ht E r c) (h' : FirstHit ht' E r' c') (hag : ∀ j, E ≤ j → j < r → ht' j = ht j) (hr : r ≤ r') : c ≤ c' + 1 := by
  rcases h with ⟨h1, h2, h3, h4⟩ | ⟨h1, h2⟩
  · rcases h' with ⟨g1, g2, g3, g4⟩ | ⟨g1, g2⟩
    · rcases Nat.lt_or_ge c' c with hl | hl
      · rw [hag c' g1 (by omega), h4 c' g1 hl] at g3; cases g3
      · omega
    · omega
  · rcases h' with ⟨g1, g2, g3, g4⟩ | ⟨g1, g2⟩
    · rcases Nat.lt_or_ge c' (2 * (r / 2)) with hl | hl
      · rw [hag c' g1 (by omega), h2 c' g1 hl] at g3; cases g3
      · omega
    · omega
theorem first_bd {ht : Nat → Bool} {E r c : Nat} (h : FirstHit ht E r c) (hE : E ≤ r) : E ≤ c ∧ c ≤ r := by
  rcases h with ⟨h1, h2, _, _⟩ | ⟨h1, _⟩ <;> omega
theorem first_lt {ht : Nat → Bool} {E r c : Nat} (h : FirstHit ht E r c) (hc : c < r) : c < 2 * (r / 2) := by
  rcases h with ⟨_, h2, _, _⟩ | ⟨h1, _⟩ <;> omega

/-- THE LAW: the cut of the data that is truncated behind the cut -/
theorem cut_shorter (zs gs : List Int) (avg small large : Int) (E L M n r m r3 c c3 : Nat) (hEL : E ≤ L) (hr : (n ≤ M ∧ r = n) ∨ (M < n ∧ r = M)) (hLr : L < r)
    (hm : (c + 2 ≤ n ∧ m = c + 2) ∨ (n < c + 2 ∧ m = n)) (hr3 : (m ≤ M ∧ r3 = m) ∨ (M < m ∧ r3 = M))
    (h : FirstHit (hit zs gs E avg small large) E r c) (h3 : FirstHit (hit (zs.take m) gs E avg small large) E r3 c3) : c3 = c := by
  have hb := first_bd h (by omega)
  have hl := fun hc => first_lt h hc
  by_cases hc : c < r
  · have h2 := hl hc
    rcases h with ⟨g1, g2, g3, g4⟩ | ⟨g1, g2⟩
    · have h' : FirstHit (hit zs gs E avg small large) E (c + 1 + (c + 1) % 2) c := Or.inl ⟨g1, by omega, g3, g4⟩
      refine first_same (r := c + 1 + (c + 1) % 2) h' h3 (fun j hj1 hj2 => ?_) (fun _ => by omega) (fun he => by omega)
      by_cases hjm : j < m
      · exact hit_take zs gs m E avg small large j hj1 hjm
      · omega
    · omega
  · refine first_same h h3 (fun j hj1 hj2 => hit_take zs gs m E avg small large j hj1 (by omega)) (fun hc' => absurd hc' hc) (fun _ => by omega)
/-- THE LAW: the cut of the data with a tail -/
theorem cut_longer (zs ts gs : List Int) (avg small large : Int) (E L M n t r r2 c c2 : Nat) (hn : zs.length = n) (hEL : E ≤ L) (hr : (n ≤ M ∧ r = n) ∨ (M < n ∧ r = M)) (hLr : L < r) (hr2 : (n + t ≤ M ∧ r2 = n + t) ∨ (M < n + t ∧ r2 = M))
    (h : FirstHit (hit zs gs E avg small large) E r c) (h2 : FirstHit (hit (zs ++ ts) gs E avg small large) E r2 c2) : ((c < r ∨ r = M ∨ t = 0) → c2 = c) ∧ c ≤ c2 + 1 := by
  have hb := first_bd h (by omega)
  have hag : ∀ j, E ≤ j → j < r → hit (zs ++ ts) gs E avg small large j = hit zs gs E avg small large j := fun j hj1 hj2 => hit_append zs ts gs E avg small large j hj1 (by omega)
  refine ⟨fun hc => first_same h h2 hag (fun hc' => ?_) (fun he => by omega), first_le h h2 hag (by omega)⟩
  have := first_lt h hc'
  omega

end Go.Proofs.Qxb6605375a
