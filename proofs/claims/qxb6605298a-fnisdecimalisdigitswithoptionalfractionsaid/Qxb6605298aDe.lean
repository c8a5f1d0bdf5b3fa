import Derived.Test.Qxb6605298aDd
namespace Go.Proofs.Qxb6605298a
open Go.RowKit

set_option maxHeartbeats 400000 in
theorem bytes6_any (s : ByteArray) (w : World) :
    Calls Try.prog 6 #[.string s] w fun e w' => e = .returned (.bool (decide ((s.size : Int) ≤ 1048576))) ∧ w' = w := by
  by_cases h : (1048576 : Int) < (s.size : Int)
  · go_enter Try.func6, Try.ntmps6
    go_wp2
    go_ret
    exact ⟨ret_bool (by first | rfl | (rw [eq_comm, decide_eq_false_iff_not]; omega)), rfl⟩
  · go_enter Try.func6, Try.ntmps6
    go_wp2
    go_ret
    exact ⟨ret_bool (by first | rfl | (rw [eq_comm, decide_eq_true_iff]; omega)), rfl⟩

-- THE FIRST LAW's WALK
set_option maxHeartbeats 400000 in
theorem walkOne (s : ByteArray) (w : World) :
    Calls Try.prog 3 #[.string s] w fun e w' => e = .returned (.bool true) ∧ w' = w := by
  by_cases h : (s.size : Int) ≤ 1048576
  · have hd : decide ((s.size : Int) ≤ 1048576) = true := decide_eq_true h
    have hs : s.size ≤ 1048576 := by omega
    go_enter Try.func3, Try.ntmps3
    go_wp2_with fail
    refine (bytes6_any s w).mono ?_
    rintro e w1 ⟨rfl, rfl⟩
    rw [hd]
    clear hd
    obtain ⟨b, hb⟩ : ∃ b, isDec s.data.toList = b := ⟨_, rfl⟩
    have HB : Hid (isDec s.data.toList = b) := hb
    clear hb
    go_wp2_with fail
    refine (zzIsDecimal_any s b w1 (by unfold maxLen; omega) HB.out).mono ?_
    rintro e w2 ⟨rfl, rfl⟩
    go_wp2_with fail
    refine (byParts_any s b w2 hs (by rw [← dec_parts]; exact HB.out)).mono ?_
    rintro e w3 ⟨rfl, rfl⟩
    go_wp2
    go_ret
    exact ⟨ret_bool (by simp), rfl⟩
  · have hd : decide ((s.size : Int) ≤ 1048576) = false := decide_eq_false h
    go_enter Try.func3, Try.ntmps3
    go_wp2_with fail
    refine (bytes6_any s w).mono ?_
    rintro e w1 ⟨rfl, rfl⟩
    rw [hd]
    clear hd
    go_wp2
    go_ret
    exact ⟨rfl, rfl⟩

/-- the guard of the second law: a bool -/
def RetB (w : World) (e : Ending) (w' : World) : Prop := ∃ b, e = .returned (.bool b) ∧ w' = w
set_option maxHeartbeats 400000 in
theorem bytes9_any (s t : ByteArray) (w : World) : Calls Try.prog 9 #[.string s, .string t] w (RetB w) := by
  go_enter Try.func9, Try.ntmps9
  go_wp2
  all_goals
    go_ret
    exact ⟨_, rfl, rfl⟩

/-- digitsOrEmpty's contract at a bool -/
theorem digE_is (s : ByteArray) (b : Bool) (w : World) (hs : s.size ≤ maxLen) (hb : digE s.data.toList = b) :
    Calls Try.prog 10 #[.string s] w fun e w' => e = .returned (.bool b) ∧ w' = w := by
  rw [← hb]; exact digE_any s w hs

theorem data_append (a b : ByteArray) : (a ++ b).data.toList = a.data.toList ++ b.data.toList := by
  simp

-- THE SECOND LAW's WALK
set_option maxHeartbeats 1000000 in
theorem walkTwo (i f : ByteArray) (w : World) :
    Calls Try.prog 4 #[.string i, .string f] w fun e w' => e = .returned (.bool true) ∧ w' = w := by
  go_enter Try.func4, Try.ntmps4
  go_wp2_with fail
  refine (bytes9_any i f w).mono ?_
  rintro e w1 ⟨b, rfl, rfl⟩
  cases b
  · go_wp2
    go_ret
    exact ⟨rfl, rfl⟩
  by_cases hi : (65536 : Int) < (i.size : Int)
  · go_wp2
    go_ret
    exact ⟨rfl, rfl⟩
  by_cases hf : (65536 : Int) < (f.size : Int)
  · go_wp2
    go_ret
    exact ⟨rfl, rfl⟩
  obtain ⟨bi, hbi⟩ : ∃ b, digE i.data.toList = b := ⟨_, rfl⟩
  obtain ⟨bf, hbf⟩ : ∃ b, digE f.data.toList = b := ⟨_, rfl⟩
  have HI : Hid (digE i.data.toList = bi) := hbi
  have HF : Hid (digE f.data.toList = bf) := hbf
  clear hbi hbf
  go_wp2_with fail
  refine (digE_is i bi _ (by unfold maxLen; omega) HI.out).mono ?_
  rintro e w2 ⟨rfl, rfl⟩
  cases bi
  · go_wp2
    go_ret
    exact ⟨rfl, rfl⟩
  go_wp2_with fail
  refine (digE_is f bf _ (by unfold maxLen; omega) HF.out).mono ?_
  rintro e w3 ⟨rfl, rfl⟩
  cases bf
  · go_wp2
    go_ret
    exact ⟨rfl, rfl⟩
  by_cases c1 : (0 : Int) < (i.size : Int)
  · by_cases c2 : (0 : Int) < (f.size : Int)
    · have g1 : decide (0 < i.size) = true := decide_eq_true (by omega)
      have g2 : decide (0 < f.size) = true := decide_eq_true (by omega)
      have g3 : decide ((0 : Int) < (i.size : Int)) = true := decide_eq_true (by omega)
      have g4 : decide ((0 : Int) < (f.size : Int)) = true := decide_eq_true (by omega)
      have e1 : Hid (isDec i.data.toList = true) := by
        show _ = _
        rw [dec_whole _ HI.out, len_data, g1]
      have e2 : Hid (isDec (i ++ (⟨#[46]⟩ : ByteArray) ++ f).data.toList = true) := by
        show _ = _
        rw [data_append, data_append]
        have := dec_frac i.data.toList f.data.toList HI.out HF.out
        rw [len_data, len_data, g1, g2] at this
        have h2 : i.data.toList ++ (⟨#[46]⟩ : ByteArray).data.toList ++ f.data.toList = i.data.toList ++ 46 :: f.data.toList := by simp
        rw [h2, this]; rfl
      have e3 : Hid (isDec ((⟨#[46]⟩ : ByteArray) ++ i).data.toList = false) := by
        show _ = _
        rw [data_append]; exact dec_lead _
      have e4 : Hid (isDec (i ++ (⟨#[46]⟩ : ByteArray) ++ f ++ (⟨#[46]⟩ : ByteArray) ++ f).data.toList = false) := by
        show _ = _
        rw [data_append, data_append, data_append, data_append]
        have := dec_two i.data.toList f.data.toList HI.out
        simpa using this
      have z2 : Hid ((i ++ (⟨#[46]⟩ : ByteArray) ++ f).size ≤ maxLen) := by
        show _ ≤ _
        rw [ByteArray.size_append, ByteArray.size_append]; show _ + 1 + _ ≤ _; unfold maxLen; omega
      have z3 : Hid (((⟨#[46]⟩ : ByteArray) ++ i).size ≤ maxLen) := by
        show _ ≤ _
        rw [ByteArray.size_append]; show 1 + _ ≤ _; unfold maxLen; omega
      have z4 : Hid ((i ++ (⟨#[46]⟩ : ByteArray) ++ f ++ (⟨#[46]⟩ : ByteArray) ++ f).size ≤ maxLen) := by
        show _ ≤ _
        rw [ByteArray.size_append, ByteArray.size_append, ByteArray.size_append, ByteArray.size_append]; show _ + 1 + _ + 1 + _ ≤ _; unfold maxLen; omega
      go_wp2_with fail
      refine (zzIsDecimal_any i true _ (by unfold maxLen; omega) e1.out).mono ?_
      rintro e w4 ⟨rfl, rfl⟩
      go_wp2_with fail
      refine (zzIsDecimal_any _ true _ z2.out e2.out).mono ?_
      rintro e w5 ⟨rfl, rfl⟩
      go_wp2_with fail
      refine (zzIsDecimal_any _ false _ z3.out e3.out).mono ?_
      rintro e w6 ⟨rfl, rfl⟩
      go_wp2_with fail
      refine (zzIsDecimal_any _ false _ z4.out e4.out).mono ?_
      rintro e w7 ⟨rfl, rfl⟩
      go_wp2
      go_ret
      exact ⟨rfl, rfl⟩
    · have g1 : decide (0 < i.size) = true := decide_eq_true (by omega)
      have g2 : decide (0 < f.size) = false := decide_eq_false (by omega)
      have g3 : decide ((0 : Int) < (i.size : Int)) = true := decide_eq_true (by omega)
      have g4 : decide ((0 : Int) < (f.size : Int)) = false := decide_eq_false (by omega)
      have e1 : Hid (isDec i.data.toList = true) := by
        show _ = _
        rw [dec_whole _ HI.out, len_data, g1]
      have e2 : Hid (isDec (i ++ (⟨#[46]⟩ : ByteArray) ++ f).data.toList = false) := by
        show _ = _
        rw [data_append, data_append]
        have := dec_frac i.data.toList f.data.toList HI.out HF.out
        rw [len_data, len_data, g1, g2] at this
        have h2 : i.data.toList ++ (⟨#[46]⟩ : ByteArray).data.toList ++ f.data.toList = i.data.toList ++ 46 :: f.data.toList := by simp
        rw [h2, this]; rfl
      have e3 : Hid (isDec ((⟨#[46]⟩ : ByteArray) ++ i).data.toList = false) := by
        show _ = _
        rw [data_append]; exact dec_lead _
      have e4 : Hid (isDec (i ++ (⟨#[46]⟩ : ByteArray) ++ f ++ (⟨#[46]⟩ : ByteArray) ++ f).data.toList = false) := by
        show _ = _
        rw [data_append, data_append, data_append, data_append]
        have := dec_two i.data.toList f.data.toList HI.out
        simpa using this
      have z2 : Hid ((i ++ (⟨#[46]⟩ : ByteArray) ++ f).size ≤ maxLen) := by
        show _ ≤ _
        rw [ByteArray.size_append, ByteArray.size_append]; show _ + 1 + _ ≤ _; unfold maxLen; omega
      have z3 : Hid (((⟨#[46]⟩ : ByteArray) ++ i).size ≤ maxLen) := by
        show _ ≤ _
        rw [ByteArray.size_append]; show 1 + _ ≤ _; unfold maxLen; omega
      have z4 : Hid ((i ++ (⟨#[46]⟩ : ByteArray) ++ f ++ (⟨#[46]⟩ : ByteArray) ++ f).size ≤ maxLen) := by
        show _ ≤ _
        rw [ByteArray.size_append, ByteArray.size_append, ByteArray.size_append, ByteArray.size_append]; show _ + 1 + _ + 1 + _ ≤ _; unfold maxLen; omega
      go_wp2_with fail
      refine (zzIsDecimal_any i true _ (by unfold maxLen; omega) e1.out).mono ?_
      rintro e w4 ⟨rfl, rfl⟩
      go_wp2_with fail
      refine (zzIsDecimal_any _ false _ z2.out e2.out).mono ?_
      rintro e w5 ⟨rfl, rfl⟩
      go_wp2_with fail
      refine (zzIsDecimal_any _ false _ z3.out e3.out).mono ?_
      rintro e w6 ⟨rfl, rfl⟩
      go_wp2_with fail
      refine (zzIsDecimal_any _ false _ z4.out e4.out).mono ?_
      rintro e w7 ⟨rfl, rfl⟩
      go_wp2
      go_ret
      exact ⟨rfl, rfl⟩
  · by_cases c2 : (0 : Int) < (f.size : Int)
    · have g1 : decide (0 < i.size) = false := decide_eq_false (by omega)
      have g2 : decide (0 < f.size) = true := decide_eq_true (by omega)
      have g3 : decide ((0 : Int) < (i.size : Int)) = false := decide_eq_false (by omega)
      have g4 : decide ((0 : Int) < (f.size : Int)) = true := decide_eq_true (by omega)
      have e1 : Hid (isDec i.data.toList = false) := by
        show _ = _
        rw [dec_whole _ HI.out, len_data, g1]
      have e2 : Hid (isDec (i ++ (⟨#[46]⟩ : ByteArray) ++ f).data.toList = false) := by
        show _ = _
        rw [data_append, data_append]
        have := dec_frac i.data.toList f.data.toList HI.out HF.out
        rw [len_data, len_data, g1, g2] at this
        have h2 : i.data.toList ++ (⟨#[46]⟩ : ByteArray).data.toList ++ f.data.toList = i.data.toList ++ 46 :: f.data.toList := by simp
        rw [h2, this]; rfl
      have e3 : Hid (isDec ((⟨#[46]⟩ : ByteArray) ++ i).data.toList = false) := by
        show _ = _
        rw [data_append]; exact dec_lead _
      have e4 : Hid (isDec (i ++ (⟨#[46]⟩ : ByteArray) ++ f ++ (⟨#[46]⟩ : ByteArray) ++ f).data.toList = false) := by
        show _ = _
        rw [data_append, data_append, data_append, data_append]
        have := dec_two i.data.toList f.data.toList HI.out
        simpa using this
      have z2 : Hid ((i ++ (⟨#[46]⟩ : ByteArray) ++ f).size ≤ maxLen) := by
        show _ ≤ _
        rw [ByteArray.size_append, ByteArray.size_append]; show _ + 1 + _ ≤ _; unfold maxLen; omega
      have z3 : Hid (((⟨#[46]⟩ : ByteArray) ++ i).size ≤ maxLen) := by
        show _ ≤ _
        rw [ByteArray.size_append]; show 1 + _ ≤ _; unfold maxLen; omega
      have z4 : Hid ((i ++ (⟨#[46]⟩ : ByteArray) ++ f ++ (⟨#[46]⟩ : ByteArray) ++ f).size ≤ maxLen) := by
        show _ ≤ _
        rw [ByteArray.size_append, ByteArray.size_append, ByteArray.size_append, ByteArray.size_append]; show _ + 1 + _ + 1 + _ ≤ _; unfold maxLen; omega
      go_wp2_with fail
      refine (zzIsDecimal_any i false _ (by unfold maxLen; omega) e1.out).mono ?_
      rintro e w4 ⟨rfl, rfl⟩
      go_wp2_with fail
      refine (zzIsDecimal_any _ false _ z2.out e2.out).mono ?_
      rintro e w5 ⟨rfl, rfl⟩
      go_wp2_with fail
      refine (zzIsDecimal_any _ false _ z3.out e3.out).mono ?_
      rintro e w6 ⟨rfl, rfl⟩
      go_wp2_with fail
      refine (zzIsDecimal_any _ false _ z4.out e4.out).mono ?_
      rintro e w7 ⟨rfl, rfl⟩
      go_wp2
      go_ret
      exact ⟨rfl, rfl⟩
    · have g1 : decide (0 < i.size) = false := decide_eq_false (by omega)
      have g2 : decide (0 < f.size) = false := decide_eq_false (by omega)
      have g3 : decide ((0 : Int) < (i.size : Int)) = false := decide_eq_false (by omega)
      have g4 : decide ((0 : Int) < (f.size : Int)) = false := decide_eq_false (by omega)
      have e1 : Hid (isDec i.data.toList = false) := by
        show _ = _
        rw [dec_whole _ HI.out, len_data, g1]
      have e2 : Hid (isDec (i ++ (⟨#[46]⟩ : ByteArray) ++ f).data.toList = false) := by
        show _ = _
        rw [data_append, data_append]
        have := dec_frac i.data.toList f.data.toList HI.out HF.out
        rw [len_data, len_data, g1, g2] at this
        have h2 : i.data.toList ++ (⟨#[46]⟩ : ByteArray).data.toList ++ f.data.toList = i.data.toList ++ 46 :: f.data.toList := by simp
        rw [h2, this]; rfl
      have e3 : Hid (isDec ((⟨#[46]⟩ : ByteArray) ++ i).data.toList = false) := by
        show _ = _
        rw [data_append]; exact dec_lead _
      have e4 : Hid (isDec (i ++ (⟨#[46]⟩ : ByteArray) ++ f ++ (⟨#[46]⟩ : ByteArray) ++ f).data.toList = false) := by
        show _ = _
        rw [data_append, data_append, data_append, data_append]
        have := dec_two i.data.toList f.data.toList HI.out
        simpa using this
      have z2 : Hid ((i ++ (⟨#[46]⟩ : ByteArray) ++ f).size ≤ maxLen) := by
        show _ ≤ _
        rw [ByteArray.size_append, ByteArray.size_append]; show _ + 1 + _ ≤ _; unfold maxLen; omega
      have z3 : Hid (((⟨#[46]⟩ : ByteArray) ++ i).size ≤ maxLen) := by
        show _ ≤ _
        rw [ByteArray.size_append]; show 1 + _ ≤ _; unfold maxLen; omega
      have z4 : Hid ((i ++ (⟨#[46]⟩ : ByteArray) ++ f ++ (⟨#[46]⟩ : ByteArray) ++ f).size ≤ maxLen) := by
        show _ ≤ _
        rw [ByteArray.size_append, ByteArray.size_append, ByteArray.size_append, ByteArray.size_append]; show _ + 1 + _ + 1 + _ ≤ _; unfold maxLen; omega
      go_wp2_with fail
      refine (zzIsDecimal_any i false _ (by unfold maxLen; omega) e1.out).mono ?_
      rintro e w4 ⟨rfl, rfl⟩
      go_wp2_with fail
      refine (zzIsDecimal_any _ false _ z2.out e2.out).mono ?_
      rintro e w5 ⟨rfl, rfl⟩
      go_wp2_with fail
      refine (zzIsDecimal_any _ false _ z3.out e3.out).mono ?_
      rintro e w6 ⟨rfl, rfl⟩
      go_wp2_with fail
      refine (zzIsDecimal_any _ false _ z4.out e4.out).mono ?_
      rintro e w7 ⟨rfl, rfl⟩
      go_wp2
      go_ret
      exact ⟨rfl, rfl⟩

end Go.Proofs.Qxb6605298a
