import Derived.Test.Qxb6605306aEb
namespace Go.Proofs.Qxb6605306a
open Go.RowKit

set_option maxHeartbeats 1000000 in
theorem walkPlain (a : Option Addr) (zs : List Int) (cap : Nat) (c : Int) (w : World) (hs : BAt w a zs) (hnil : a = none → zs = []) :
    Calls Try.prog 4 #[.slice a zs.length cap, .int .u8 c] w fun e w' => e = .returned (.bool true) ∧ Below w.heap.size w w' := by
  go_enter Try.func4, Try.ntmps4
  go_wp2_with fail
  refine (bytes9_any a zs.length cap c w).mono ?_
  rintro e w1 ⟨b1, rfl, rfl⟩
  cases b1
  · go_wp2
    go_ret
    exact ⟨rfl, Below.refl _ _⟩
  by_cases hl : (1048576 : Int) < (zs.length : Int)
  · go_wp2
    go_ret
    exact ⟨rfl, Below.refl _ _⟩
  go_wp2
  go_loop [5] (fun i => ∃ k : Nat, k ≤ zs.length ∧ i = .int .i64 k ∧ ∀ j, j < k → zs.getD j 0 ≠ 92) (fun i => zs.length - (intOf i).toNat)
  case atStart => exact ⟨0, Nat.zero_le _, rfl, fun j h => by omega⟩
  case round =>
    obtain ⟨k, hk, rfl, hall⟩ := hrel
    have HA : Hid (∀ j, j < k → zs.getD j 0 ≠ 92) := hall
    clear hall
    by_cases hlt : k < zs.length
    · obtain ⟨b, off, rfl, hblt, hc⟩ := hs k hlt
      obtain ⟨z, hz⟩ : ∃ z, zs.getD k 0 = z := ⟨_, rfl⟩
      rw [hz] at hc
      by_cases h92 : z = 92
      · have h92' : (z == 92) = true := by rw [h92]; rfl
        clear hz hs hnil h92
        go_wp2
        go_ret
        exact ⟨rfl, Below.refl _ _⟩
      · have h92' : (z == 92) = false := beq_eq_false_iff_ne.2 h92
        have HB : Hid (∀ j, j < k + 1 → zs.getD j 0 ≠ 92) := by
          intro j hj
          by_cases e : j = k
          · rw [e, hz]; exact h92
          · exact HA.out j (by omega)
        clear hz hs hnil h92 HA
        go_wp2
        go_round
        case rel => exact ⟨k + 1, by omega, by go_num, HB.out⟩
        case measure => simp [intOf]; omega
    · have HN : Hid (∀ j, j < zs.length → zs.getD j 0 ≠ 92) := fun j hj => HA.out j (by omega)
      clear HA
      go_wp2_with fail
      refine (clone_any a zs cap w1 hs (by omega) hnil).mono ?_
      rintro e w2 ⟨a', cap', rfl, hs', hb2⟩
      clear hs hnil
      have HB2 : Hid (Below w1.heap.size w1 w2) := hb2
      clear hb2
      go_wp2
      go_loop [6, 7] (fun v i => ∃ m : Nat, m ≤ zs.length ∧ i = .int .i64 m ∧ v = .int .i64 (lastEq zs c m)) (fun _ i => zs.length - (intOf i).toNat)
      case atStart => exact ⟨0, Nat.zero_le _, rfl, rfl⟩
      case round =>
        obtain ⟨m, hm, rfl, rfl⟩ := hrel
        by_cases hlt2 : m < zs.length
        · obtain ⟨b, off, rfl, hblt, hc⟩ := hs' m hlt2
          obtain ⟨z, hz⟩ : ∃ z, zs.getD m 0 = z := ⟨_, rfl⟩
          rw [hz] at hc
          by_cases hzc : z = c
          · have hzc' : (z == c) = true := by rw [hzc]; simp
            have HE : Hid (lastEq zs c (m + 1) = (m : Int)) := by
              show _ = _
              rw [lastEq, hz, if_pos hzc]
            clear hs' hz hzc
            go_wp2
            go_round
            case rel => exact ⟨m + 1, by omega, by go_num, by rw [HE.out]⟩
            case measure => simp [intOf]; omega
          · have hzc' : (z == c) = false := beq_eq_false_iff_ne.2 hzc
            have HE : Hid (lastEq zs c (m + 1) = lastEq zs c m) := by
              show _ = _
              rw [lastEq, hz, if_neg hzc]
            clear hs' hz hzc
            go_wp2
            go_round
            case rel => exact ⟨m + 1, by omega, by go_num, by rw [HE.out]⟩
            case measure => simp [intOf]; omega
        · have hme : m = zs.length := by omega
          subst hme
          obtain ⟨r, hr⟩ : ∃ r, lastUp zs c zs.length = r := ⟨_, rfl⟩
          have HE : Hid (lastEq zs c zs.length = r) := by
            show _ = _
            rw [← lastUp_plain zs c zs.length HN.out]; exact hr
          have hE : (r == lastEq zs c zs.length) = true := by rw [HE.out]; simp
          go_wp2_with fail
          refine (zzLast_any a' zs cap' c r w2 hs' (by omega) hr).mono ?_
          clear hr hs'
          rintro e w3 ⟨rfl, rfl⟩
          go_wp2
          go_ret
          exact ⟨rfl, HB2.out⟩

set_option maxHeartbeats 1000000 in
theorem walkLast (a : Option Addr) (zs : List Int) (cap : Nat) (c : Int) (w : World) (hs : BAt w a zs) (hnil : a = none → zs = []) :
    Calls Try.prog 3 #[.slice a zs.length cap, .int .u8 c] w fun e w' => e = .returned (.bool true) ∧ Below w.heap.size w w' := by
  go_enter Try.func3, Try.ntmps3
  go_wp2_with fail
  refine (bytes5_any a zs.length cap c w).mono ?_
  rintro e w1 ⟨b1, rfl, rfl⟩
  cases b1
  · go_wp2
    go_ret
    exact ⟨rfl, Below.refl _ _⟩
  by_cases hl : (1048576 : Int) < (zs.length : Int)
  · go_wp2
    go_ret
    exact ⟨rfl, Below.refl _ _⟩
  go_wp2_with fail
  refine (clone_any a zs cap w1 hs (by omega) hnil).mono ?_
  rintro e w2 ⟨a', cap', rfl, hs', hb2⟩
  clear hs hnil
  have HB2 : Hid (Below w1.heap.size w1 w2) := hb2
  clear hb2
  rcases lastUp_spec zs c zs.length with ⟨hr, hall⟩ | ⟨r, hrl, hr, hyes, hall⟩
  · have HA : Hid (∀ i, i < zs.length → unB zs c i = false) := hall
    clear hall
    go_wp2_with fail
    refine (zzLast_any a' zs cap' c (-1) w2 hs' (by omega) hr).mono ?_
    clear hr
    rintro e w3 ⟨rfl, rfl⟩
    go_wp2
    go_loop [6] (fun i => ∃ k : Nat, k ≤ zs.length ∧ i = .int .i64 k) (fun i => zs.length - (intOf i).toNat)
    case atStart => exact ⟨0, Nat.zero_le _, rfl⟩
    case round =>
      obtain ⟨k, hk, rfl⟩ := hrel
      by_cases hlt : k < zs.length
      · have hlp : 0 < zs.length := by omega
        obtain ⟨b, off, rfl, hblt, hc⟩ := hs'.addr hlp
        go_wp2_with fail
        refine (unescapedAt_any b off cap' zs c k false _ hlt (by omega) hc (HA.out k hlt)).mono ?_
        clear hc hs'
        rintro e w4 ⟨rfl, rfl⟩
        go_wp2
        go_round
        case rel => exact ⟨k + 1, by omega, by go_num⟩
        case measure => simp [intOf]; omega
      · go_wp2
        go_ret
        exact ⟨rfl, HB2.out⟩
  · have HA : Hid (∀ j, r < j → j < zs.length → unB zs c j = false) := hall
    have HY : Hid (unB zs c r = true) := hyes
    clear hall hyes
    have hlp : 0 < zs.length := by omega
    have h1 : ((r : Int) == -1) = false := beq_eq_false_iff_ne.2 (by omega)
    have h2 : ¬ (r : Int) < 0 := by omega
    have h3 : ¬ (zs.length : Int) ≤ (r : Int) := by omega
    go_wp2_with fail
    refine (zzLast_any a' zs cap' c (r : Int) w2 hs' (by omega) hr).mono ?_
    clear hr
    rintro e w3 ⟨rfl, rfl⟩
    obtain ⟨b, off, rfl, hblt, hc⟩ := hs'.addr hlp
    clear hs'
    have HC : Hid _ := hc
    clear hc
    go_wp2_with fail
    refine (unescapedAt_any b off cap' zs c r true _ hrl (by omega) HC.out HY.out).mono ?_
    rintro e w4 ⟨rfl, rfl⟩
    go_wp2
    go_loop [7] (fun i => ∃ k : Nat, r < k ∧ k ≤ zs.length ∧ i = .int .i64 k) (fun i => zs.length - (intOf i).toNat)
    case atStart => exact ⟨r + 1, by omega, by omega, by go_num⟩
    case round =>
      obtain ⟨k, hrk, hk, rfl⟩ := hrel
      by_cases hlt : k < zs.length
      · go_wp2_with fail
        refine (unescapedAt_any b off cap' zs c k false _ hlt (by omega) HC.out (HA.out k hrk hlt)).mono ?_
        rintro e w5 ⟨rfl, rfl⟩
        go_wp2
        go_round
        case rel => exact ⟨k + 1, by omega, by omega, by go_num⟩
        case measure => simp [intOf]; omega
      · go_wp2
        go_ret
        exact ⟨rfl, HB2.out⟩

end Go.Proofs.Qxb6605306a
