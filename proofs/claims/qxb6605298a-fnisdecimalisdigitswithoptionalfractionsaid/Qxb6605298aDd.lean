import Derived.Test.Qxb6605298aDc
import Derived.Lib.Strings
import Derived.Lib.IndexBytes
namespace Go.Proofs.Qxb6605298a
open Go.RowKit

theorem dot_no {c : UInt8} (h : ¬ (c.toNat : Int) = 46) : ¬ c = 46 := fun e => h (by rw [e]; rfl)

set_option maxHeartbeats 1000000 in
theorem byParts_any (s : ByteArray) (b : Bool) (w : World) (hs : s.size ≤ 1048576) (hb : parts s.data.toList = b) :
    Calls Try.prog 8 #[.string s] w fun e w' => e = .returned (.bool b) ∧ w' = w := by
  have HPB : Hid (parts s.data.toList = b) := hb
  clear hb
  go_enter Try.func8, Try.ntmps8
  go_wp2
  go_loop [3, 4, 5] (fun pt at_ i => ∃ k : Nat, k ≤ s.size ∧ i = .int .i64 k ∧ pt = .int .i64 (pts (s.data.toList.take k) : Nat) ∧
    ((pts (s.data.toList.take k) = 0 ∧ at_ = .int .i64 0) ∨ (0 < pts (s.data.toList.take k) ∧ at_ = .int .i64 (fst46 s.data.toList : Nat)))) (fun _ _ i => s.size - (intOf i).toNat)
  case atStart => exact ⟨0, Nat.zero_le _, rfl, rfl, Or.inl ⟨rfl, rfl⟩⟩
  case round =>
    obtain ⟨k, hk, rfl, rfl, hst⟩ := hrel
    have hpk := pts_take_le s.data.toList k
    by_cases hlt : k < s.size
    · have HT : Hid (pts (s.data.toList.take (k + 1)) = pts (s.data.toList.take k) + if s[k] = 46 then 1 else 0) := pts_take_succ _ k _ (get_byte s k hlt)
      by_cases hdot : ((s[k]'hlt).toNat : Int) = 46
      · have hdot' : (((s[k]'hlt).toNat : Int) == 46) = true := beq_iff_eq.2 hdot
        have HE : Hid (s[k] = 46) := dot_of hdot
        have HT1 : Hid (pts (s.data.toList.take (k + 1)) = pts (s.data.toList.take k) + 1) := by have := HT.out; rwa [HE.out, if_pos rfl] at this
        clear hdot
        rcases hst with ⟨h0, rfl⟩ | ⟨h0, rfl⟩
        · have h0' : ((pts (s.data.toList.take k) : Int) == 0) = true := by rw [h0]; rfl
          have HA : Hid (fst46 s.data.toList = k) := fst46_at _ k (by rw [get_byte s k hlt, HE.out]) h0
          clear h0
          go_wp2
          go_round
          case rel => exact ⟨k + 1, by omega, by go_num, by rw [HT1.out]; go_num, Or.inr ⟨by rw [HT1.out]; omega, by rw [HA.out]⟩⟩
          case measure => simp [intOf]; omega
        · have h0' : ((pts (s.data.toList.take k) : Int) == 0) = false := beq_eq_false_iff_ne.2 (by omega)
          go_wp2
          go_round
          case rel => exact ⟨k + 1, by omega, by go_num, by rw [HT1.out]; go_num, Or.inr ⟨by rw [HT1.out]; omega, rfl⟩⟩
          case measure => simp [intOf]; omega
      · have hdot' : (((s[k]'hlt).toNat : Int) == 46) = false := beq_eq_false_iff_ne.2 hdot
        have HE : Hid (¬ s[k] = 46) := dot_no hdot
        have HT1 : Hid (pts (s.data.toList.take (k + 1)) = pts (s.data.toList.take k)) := by have := HT.out; rwa [if_neg HE.out] at this
        clear hdot
        rcases hst with ⟨h0, rfl⟩ | ⟨h0, rfl⟩
        · have H0 : Hid _ := h0
          clear h0
          go_wp2
          go_round
          case rel => exact ⟨k + 1, by omega, by go_num, by rw [HT1.out], Or.inl ⟨by rw [HT1.out]; exact H0.out, rfl⟩⟩
          case measure => simp [intOf]; omega
        · go_wp2
          go_round
          case rel => exact ⟨k + 1, by omega, by go_num, by rw [HT1.out], Or.inr ⟨by rw [HT1.out]; exact h0, rfl⟩⟩
          case measure => simp [intOf]; omega
    · have hke : k = s.size := by omega
      subst hke
      have HL : Hid (s.data.toList.take s.size = s.data.toList) := List.take_of_length_le (by rw [len_data]; omega)
      rcases hst with ⟨h0, rfl⟩ | ⟨h0, rfl⟩
      · have h0' : ((pts (s.data.toList.take s.size) : Int) == 0) = true := by rw [h0]; rfl
        have HD : Hid (digO s.data.toList = b) := by
          show _ = _
          rw [← HPB.out]; unfold parts; rw [← HL.out, h0] ; simp
        clear h0
        go_wp2_with fail
        refine (digO_any s b w (by unfold maxLen; omega) HD.out).mono ?_
        rintro e w' ⟨rfl, rfl⟩
        go_wp2
        go_ret
        exact ⟨rfl, rfl⟩
      · have h0' : ((pts (s.data.toList.take s.size) : Int) == 0) = false := beq_eq_false_iff_ne.2 (by omega)
        by_cases h1 : (1 : Int) < (pts (s.data.toList.take s.size) : Int)
        · have HD : Hid (b = false) := by
            show _ = _
            rw [← HPB.out]; unfold parts; rw [HL.out] at h0 h1; rw [if_neg (by omega), if_pos (by omega)]
          go_wp2
          go_ret
          exact ⟨ret_bool HD.out.symm, rfl⟩
        · have hfl : fst46 s.data.toList < s.size := by rw [HL.out] at h0; have := fst46_lt s.data.toList (by omega); rwa [len_data] at this
          have HD : Hid ((digO (s.data.toList.take (fst46 s.data.toList)) && digO (s.data.toList.drop (fst46 s.data.toList + 1))) = b) := by
            show _ = _
            rw [← HPB.out]; unfold parts; rw [HL.out] at h0 h1; rw [if_neg (by omega), if_neg (by omega)]
          have HB1 : Hid (digO (s.extract 0 (fst46 s.data.toList)).data.toList = digO (s.data.toList.take (fst46 s.data.toList))) := by
            show _ = _
            rw [Lib.extract_data, List.drop_zero, Nat.sub_zero]
          have HB2 : Hid (digO (s.extract (fst46 s.data.toList + 1) s.size).data.toList = digO (s.data.toList.drop (fst46 s.data.toList + 1))) := by
            show _ = _
            rw [Lib.extract_to_end]
          have hz1 : (s.extract 0 (fst46 s.data.toList)).size ≤ maxLen := by rw [ByteArray.size_extract]; unfold maxLen; omega
          have hz2 : (s.extract (fst46 s.data.toList + 1) s.size).size ≤ maxLen := by rw [ByteArray.size_extract]; unfold maxLen; omega
          obtain ⟨b1, hb1⟩ : ∃ b1, digO (s.data.toList.take (fst46 s.data.toList)) = b1 := ⟨_, rfl⟩
          obtain ⟨b2, hb2⟩ : ∃ b2, digO (s.data.toList.drop (fst46 s.data.toList + 1)) = b2 := ⟨_, rfl⟩
          have HE : Hid ((b1 && b2) = b) := by
            show _ = _
            rw [← hb1, ← hb2]; exact HD.out
          have HC1 : Hid _ := HB1.out.trans hb1
          have HC2 : Hid _ := HB2.out.trans hb2
          clear hb1 hb2 HD HB1 HB2
          go_wp2_with fail
          refine (digO_any (s.extract 0 (fst46 s.data.toList)) b1 w hz1 HC1.out).mono ?_
          rintro e w1 ⟨rfl, rfl⟩
          cases b1
          · go_wp2
            go_ret
            exact ⟨ret_bool (by rw [← HE.out]; rfl), rfl⟩
          · go_wp2_with fail
            refine (digO_any (s.extract (fst46 s.data.toList + 1) s.size) b2 _ hz2 HC2.out).mono ?_
            rintro e w2 ⟨rfl, rfl⟩
            go_wp2
            go_ret
            exact ⟨ret_bool (by rw [← HE.out]; rfl), rfl⟩

end Go.Proofs.Qxb6605298a
