import Derived.Test.Qxb6605298aDb
namespace Go.Proofs.Qxb6605298a
open Go.RowKit

/-- the state of isDecimal's loop ahead of byte k: d digits so far, the point at p (or -1) -/
def InA (l : List UInt8) (k d : Nat) : Prop := isDec l = fA (decide (0 < d)) (l.drop k)
def InB (l : List UInt8) (k p : Nat) : Prop := isDec l = fB (decide (p + 1 < k)) (l.drop k)

theorem InA.dig {l : List UInt8} {k d : Nat} {c : UInt8} (h : InA l k d) (hd : l.drop k = c :: l.drop (k + 1)) (hc : isDig c = true) : InA l (k + 1) (d + 1) := by
  unfold InA at *
  rw [h, hd, fA, if_pos hc]; simp
theorem InA.dot {l : List UInt8} {k d : Nat} (h : InA l k d) (hd : l.drop k = 46 :: l.drop (k + 1)) (h0 : 0 < d) : InB l (k + 1) k := by
  unfold InA at h; unfold InB
  have hn : ¬ isDig 46 = true := by decide
  rw [h, hd, fA, if_neg hn, if_pos ⟨rfl, by simpa using h0⟩]; simp
theorem InA.bad {l : List UInt8} {k d : Nat} {c : UInt8} (h : InA l k d) (hd : l.drop k = c :: l.drop (k + 1)) (hc : isDig c = false) (h0 : ¬ (c = 46 ∧ 0 < d)) : isDec l = false := by
  unfold InA at h
  rw [h, hd, fA, if_neg (by simp [hc]), if_neg (by simpa using h0)]
theorem InB.dig {l : List UInt8} {k p : Nat} {c : UInt8} (h : InB l k p) (hp : p < k) (hd : l.drop k = c :: l.drop (k + 1)) (hc : isDig c = true) : InB l (k + 1) p := by
  unfold InB at *
  rw [h, hd, fB, if_pos hc]
  congr 1; simp; omega
theorem InB.bad {l : List UInt8} {k p : Nat} {c : UInt8} (h : InB l k p) (hd : l.drop k = c :: l.drop (k + 1)) (hc : isDig c = false) : isDec l = false := by
  unfold InB at h
  rw [h, hd, fB, if_neg (by simp [hc])]

theorem isDig_yes {c : UInt8} (h1 : (48 : Int) ≤ (c.toNat : Int)) (h2 : (c.toNat : Int) ≤ 57) : isDig c = true := by simp [isDig]; omega
theorem isDig_no {c : UInt8} (h : ¬ ((48 : Int) ≤ (c.toNat : Int) ∧ (c.toNat : Int) ≤ 57)) : isDig c = false := by
  simp only [isDig, Bool.and_eq_false_iff, decide_eq_false_iff_not]; omega
theorem dot_of {c : UInt8} (h : (c.toNat : Int) = 46) : c = 46 := by
  apply UInt8.toNat_inj.1
  show c.toNat = 46
  omega
theorem ret_bool {a b : Bool} (h : a = b) : Ending.returned (.bool a) = .returned (.bool b) := by rw [h]

set_option maxHeartbeats 1000000 in
theorem isDecimal_any (s : ByteArray) (w : World) (hs : s.size ≤ maxLen) :
    Calls Try.prog 23 #[.string s] w fun e w' => e = .returned (.bool (isDec s.data.toList)) ∧ w' = w := by
  unfold maxLen at hs
  go_enter Try.func23, Try.ntmps23
  go_wp2
  go_loop [3, 4, 5] (fun dg pt i => ∃ k d : Nat, k ≤ s.size ∧ d ≤ k ∧ i = .int .i64 k ∧ dg = .int .i64 d ∧
    ((pt = .int .i64 (-1) ∧ InA s.data.toList k d) ∨ ∃ p : Nat, pt = .int .i64 p ∧ p < k ∧ 0 < d ∧ InB s.data.toList k p)) (fun _ _ i => s.size - (intOf i).toNat)
  case atStart => exact ⟨0, 0, Nat.zero_le _, Nat.le_refl _, rfl, rfl, Or.inl ⟨rfl, by simp [InA, isDec]⟩⟩
  case round =>
    obtain ⟨k, d, hk, hdk, rfl, rfl, hst⟩ := hrel
    by_cases hlt : k < s.size
    · have HD : Hid (s.data.toList.drop k = s[k] :: s.data.toList.drop (k + 1)) := drop_cons _ k _ (get_byte s k hlt)
      have hc8 : ((s[k]'hlt).toNat : Int) ≤ 255 := by have := (s[k]'hlt).toNat_lt; omega
      by_cases hdig : (48 : Int) ≤ ((s[k]'hlt).toNat : Int) ∧ ((s[k]'hlt).toNat : Int) ≤ 57
      · obtain ⟨hd1, hd2⟩ := hdig
        have HC : Hid (isDig s[k] = true) := isDig_yes hd1 hd2
        rcases hst with ⟨rfl, hA⟩ | ⟨p, rfl, hp, hd0, hB⟩
        · have HA : Hid (InA s.data.toList (k + 1) (d + 1)) := hA.dig HD.out HC.out
          clear hA
          go_wp2
          go_round
          case rel => exact ⟨k + 1, d + 1, by omega, by omega, by go_num, by go_num, Or.inl ⟨rfl, HA.out⟩⟩
          case measure => simp [intOf]; omega
        · have HB : Hid (InB s.data.toList (k + 1) p) := hB.dig hp HD.out HC.out
          clear hB
          go_wp2
          go_round
          case rel => exact ⟨k + 1, d + 1, by omega, by omega, by go_num, by go_num, Or.inr ⟨p, rfl, by omega, by omega, HB.out⟩⟩
          case measure => simp [intOf]; omega
      · have HC : Hid (isDig s[k] = false) := isDig_no hdig
        have HN : Hid (¬ ((48 : Int) ≤ ((s[k]'hlt).toNat : Int) ∧ ((s[k]'hlt).toNat : Int) ≤ 57)) := hdig
        clear hdig
        by_cases hdot : ((s[k]'hlt).toNat : Int) = 46
        · have hdot' : (((s[k]'hlt).toNat : Int) == 46) = true := beq_iff_eq.2 hdot
          have hlo : ¬ (48 : Int) ≤ ((s[k]'hlt).toNat : Int) := by omega
          have HE : Hid (s[k] = 46) := dot_of hdot
          have HD' : Hid (s.data.toList.drop k = 46 :: s.data.toList.drop (k + 1)) := by have := HD.out; rwa [HE.out] at this
          clear hdot
          rcases hst with ⟨rfl, hA⟩ | ⟨p, rfl, hp, hd0, hB⟩
          · by_cases hd0 : 0 < d
            · have HB : Hid (InB s.data.toList (k + 1) k) := hA.dot HD'.out hd0
              clear hA
              go_wp2
              go_round
              case rel => exact ⟨k + 1, d, by omega, by omega, by go_num, rfl, Or.inr ⟨k, rfl, by omega, hd0, HB.out⟩⟩
              case measure => simp [intOf]; omega
            · have HF : Hid (isDec s.data.toList = false) := hA.bad HD.out HC.out (by omega)
              clear hA
              go_wp2
              go_ret
              exact ⟨ret_bool HF.out.symm, rfl⟩
          · have HF : Hid (isDec s.data.toList = false) := hB.bad HD.out HC.out
            clear hB
            go_wp2
            go_ret
            exact ⟨ret_bool HF.out.symm, rfl⟩
        · have hdot' : (((s[k]'hlt).toNat : Int) == 46) = false := beq_eq_false_iff_ne.2 hdot
          have HE : Hid (¬ s[k] = 46) := fun e => hdot (by rw [e]; rfl)
          have HF : Hid (isDec s.data.toList = false) := by
            rcases hst with ⟨rfl, hA⟩ | ⟨p, rfl, hp, hd0, hB⟩
            · exact hA.bad HD.out HC.out (fun h => HE.out h.1)
            · exact hB.bad HD.out HC.out
          clear hst hdot
          by_cases hlo : (48 : Int) ≤ ((s[k]'hlt).toNat : Int)
          · have hhi : ¬ ((s[k]'hlt).toNat : Int) ≤ 57 := fun h => HN.out ⟨hlo, h⟩
            go_wp2
            go_ret
            exact ⟨ret_bool HF.out.symm, rfl⟩
          · skip
            go_wp2
            go_ret
            exact ⟨ret_bool HF.out.symm, rfl⟩
    · have hk' : s.data.toList.drop k = [] := List.drop_of_length_le (by rw [len_data]; omega)
      rcases hst with ⟨rfl, hA⟩ | ⟨p, rfl, hp, hd0, hB⟩
      · have HF : Hid (isDec s.data.toList = decide (0 < d)) := by unfold InA at hA; rw [hk'] at hA; exact hA
        clear hA hk'
        by_cases hd0 : (0 : Int) < (d : Int)
        · have hne : ((-1 : Int) != (s.size : Int) - 1) = true := bne_iff_ne.2 (by omega)
          go_wp2
          go_ret
          exact ⟨ret_bool (by rw [HF.out]; simp; omega), rfl⟩
        · go_wp2
          go_ret
          exact ⟨ret_bool (by rw [HF.out]; simp; omega), rfl⟩
      · have HF : Hid (isDec s.data.toList = decide (p + 1 < k)) := by unfold InB at hB; rw [hk'] at hB; exact hB
        clear hB hk'
        have hd0' : (0 : Int) < (d : Int) := by omega
        by_cases hpe : (p : Int) = (s.size : Int) - 1
        · have hne : ((p : Int) != (s.size : Int) - 1) = false := by rw [hpe]; simp
          have HPE : Hid ((p : Int) = (s.size : Int) - 1) := hpe
          clear hpe
          go_wp2
          go_ret
          exact ⟨ret_bool (by rw [HF.out]; have := HPE.out; first | (rw [eq_comm, decide_eq_true_iff]; omega) | (rw [eq_comm, decide_eq_false_iff_not]; omega)), rfl⟩
        · have hne : ((p : Int) != (s.size : Int) - 1) = true := bne_iff_ne.2 hpe
          have HPE : Hid (¬ (p : Int) = (s.size : Int) - 1) := hpe
          clear hpe
          go_wp2
          go_ret
          exact ⟨ret_bool (by rw [HF.out]; have := HPE.out; first | (rw [eq_comm, decide_eq_true_iff]; omega) | (rw [eq_comm, decide_eq_false_iff_not]; omega)), rfl⟩

set_option maxHeartbeats 400000 in
theorem zzIsDecimal_any (s : ByteArray) (b : Bool) (w : World) (hs : s.size ≤ maxLen) (hb : isDec s.data.toList = b) :
    Calls Try.prog 7 #[.string s] w fun e w' => e = .returned (.bool b) ∧ w' = w := by
  have HB : Hid (isDec s.data.toList = b) := hb
  clear hb
  go_enter Try.func7, Try.ntmps7
  go_wp2_with fail
  refine (isDecimal_any s w hs).mono ?_
  rintro e w' ⟨rfl, rfl⟩
  rw [HB.out]
  go_wp2
  go_ret
  exact ⟨rfl, rfl⟩

end Go.Proofs.Qxb6605298a
