import Derived.Test.Qxb6605295aLb
import Derived.Test.Qxb6605295aLd
namespace Go.Proofs.Qxb6605295a
open Go.RowKit

/-- the total that the first loop reckons, behind k rounds -/
def totK (x : ByteArray) (xs : List ByteArray) (k : Nat) : Int := 16 + (x.size : Int) + 16 * (k : Int) + (tot (xs.take k) : Int)
theorem totK_succ (x : ByteArray) (xs : List ByteArray) (k : Nat) (y : ByteArray) (h : xs[k]? = some y) : totK x xs (k + 1) = totK x xs k + (16 + (y.size : Int)) := by
  unfold totK
  rw [tot_take_succ xs k y h]
  omega
theorem tot_of_totK {x : ByteArray} {xs : List ByteArray} {k : Nat} (hk : xs.length ≤ k ∧ k ≤ xs.length) (h : totK x xs k ≤ 1048576) : 16 + x.size + 16 * xs.length + tot xs ≤ 1048576 := by
  obtain rfl : k = xs.length := by omega
  unfold totK at h
  rw [List.take_length] at h
  omega
theorem totK_nonneg (x : ByteArray) (xs : List ByteArray) (k : Nat) : 0 ≤ totK x xs k := by unfold totK; omega
theorem size_of_mem {xs : List ByteArray} {k : Nat} {y : ByteArray} (h : ∀ z ∈ xs, z.size ≤ 1048576) (hy : xs[k]? = some y) : y.size ≤ 1048576 := h y (List.mem_of_getElem? hy)

/-- the row all behind m rounds -/
def allV (x : ByteArray) (xs : List ByteArray) (m : Nat) : List Value := (x :: xs.take m).map Value.string
theorem allV_succ (x : ByteArray) (xs : List ByteArray) (m : Nat) (y : ByteArray) (hy : xs[m]? = some y) : allV x xs m ++ [.string y] = allV x xs (m + 1) := by
  unfold allV
  rw [List.take_add_one, hy]; simp

/-! the plain law -/
theorem orB_cons1 (x y : ByteArray) : orB [x, y] = x ++ ⟨#[32, 111, 114, 32]⟩ ++ y := by
  have := orB_more [x] y (by simp)
  rw [show [x, y] = [x] ++ [y] from rfl, this]
  obtain ⟨⟨l⟩⟩ := x
  simp [Lib.join_one]
theorem orB_cons2 (x : ByteArray) (xs : List ByteArray) (h : 2 ≤ xs.length) : orB (x :: xs) = x ++ ⟨#[44, 32]⟩ ++ orB xs := by
  have hne : xs ≠ [] := by rintro rfl; simp at h
  obtain ⟨ys, z, rfl⟩ : ∃ ys z, xs = ys ++ [z] := ⟨_, _, (List.dropLast_concat_getLast hne).symm⟩
  simp only [List.length_append, List.length_cons, List.length_nil] at h
  rw [show x :: (ys ++ [z]) = (x :: ys) ++ [z] from rfl, orB_more (x :: ys) z (by simp), orB_more ys z (by omega)]
  cases ys with
  | nil => simp at h
  | cons y r =>
    rw [List.map_cons, List.map_cons, Lib.join_cons, Lib.join_cons]
    obtain ⟨⟨l⟩⟩ := x
    obtain ⟨⟨ly⟩⟩ := y
    obtain ⟨⟨lz⟩⟩ := z
    simp [ByteArray.ext_iff, Lib.joinTail]

theorem orB_size (xs : List ByteArray) (h : 1 ≤ xs.length) : (orB xs).size ≤ tot xs + 2 * xs.length + 4 := by
  have hne : xs ≠ [] := by rintro rfl; simp at h
  obtain ⟨ys, z, rfl⟩ : ∃ ys z, xs = ys ++ [z] := ⟨_, _, (List.dropLast_concat_getLast hne).symm⟩
  by_cases e : 1 ≤ ys.length
  · have hj := join_le ys
    have hz : tot [z] = z.size := by simp [tot]
    rw [orB_more ys z e, ByteArray.size_append, ByteArray.size_append, tot_append, hz]
    simp only [ByteArray.size, List.size_toArray, List.length_append, List.length_cons, List.length_nil]
    simp only [ByteArray.size] at hz
    omega
  · obtain rfl : ys = [] := List.length_eq_zero_iff.1 (by omega)
    rw [List.nil_append, orB_one]
    simp [tot]
    omega

theorem sat_cons {w : World} {base g m cap : Nat} {x : ByteArray} {xs : List ByteArray} (hm : xs.length ≤ m ∧ m ≤ xs.length) (h : w.ownsRow base 9 1 (.slice (some ⟨g, 0, none⟩) (m + 1) cap) (m + 1) (allV x xs m)) : SAt w (some ⟨g, 0, none⟩) (x :: xs) := by
  obtain rfl : m = xs.length := by omega
  unfold allV at h
  rw [List.take_length] at h
  refine sat_of_own h ?_ (by simp) (own_lt h)
  intro i y _ hy
  rw [List.getElem?_map, hy]; rfl

set_option maxHeartbeats 2000000 in
theorem cons_walk (x : ByteArray) (a : Option Addr) (xs : List ByteArray) (cap : Nat) (w : World) (hs : SAt w a xs) (hnil : a = none → xs = []) (hcap : xs.length ≤ cap) :
    Calls Try.prog 5 #[.string x, .slice a xs.length cap] w fun e w' => e = .returned (.bool true) ∧ Below w.heap.size w w' := by
  go_enter Try.func5, Try.ntmps5
  go_wp2_with fail
  refine (bytesCons_any x a xs cap w hs).mono ?_
  rintro e w1 ⟨b1, rfl, rfl, hg⟩
  cases b1
  · clear hg
    go_wp2
    go_ret
    exact ⟨rfl, Below.refl _ _⟩
  have HG : Hid (∀ y ∈ xs, y.size ≤ 1048576) := hg rfl
  clear hg
  by_cases hx : (65536 : Int) < (x.size : Int)
  · go_wp2
    go_ret
    exact ⟨rfl, Below.refl _ _⟩
  by_cases hl : (65536 : Int) < (xs.length : Int)
  · go_wp2
    go_ret
    exact ⟨rfl, Below.refl _ _⟩
  go_wp2
  go_loop [5, 6] (fun n i => ∃ k : Nat, k ≤ xs.length ∧ i = .int .i64 k ∧ n = .int .i64 (totK x xs k) ∧ totK x xs k ≤ 1048576) (fun _ i => xs.length - (intOf i).toNat)
  case atStart => exact ⟨0, Nat.zero_le _, rfl, by simp [totK, tot], by simp [totK, tot]; omega⟩
  case round =>
    obtain ⟨k, hk, rfl, rfl, hT⟩ := hrel
    have hT0 := totK_nonneg x xs k
    by_cases hlt : k < xs.length
    · obtain ⟨y, hy⟩ : ∃ y, xs[k]? = some y := ⟨_, List.getElem?_eq_getElem hlt⟩
      have hyl := size_of_mem HG.out hy
      have HT : Hid (totK x xs (k + 1) = totK x xs k + (16 + (y.size : Int))) := totK_succ x xs k y hy
      obtain ⟨b, off, rfl, hblt, hc⟩ := hs k y hy
      by_cases hyt : (1048576 : Int) < totK x xs k + (16 + (y.size : Int))
      · clear hy hs hnil
        go_wp2
        go_ret
        exact ⟨rfl, Below.refl _ _⟩
      · clear hy hs hnil
        go_wp2
        go_round
        case rel => exact ⟨k + 1, by omega, by go_num, by rw [HT.out], by rw [HT.out]; omega⟩
        case measure => simp [intOf]; omega
    · have htot : 16 + x.size + 16 * xs.length + tot xs ≤ 1048576 := tot_of_totK (by omega) hT
      obtain ⟨i0, hi, hz0, hz1, hz2⟩ := info_parts info9
      clear hT hT0
      go_wp2_with fail
      refine (clone_any a xs cap w1 hs (by omega) hnil hcap).mono ?_
      rintro e w2 ⟨a', cap', rfl, hc', hs', hb2⟩
      clear hs hnil
      go_wp2_with (at_make; refine wpList_make_own _ rfl _ _ 44 rfl w2.heap.size 9 i0 (.string ⟨#[]⟩) 1 Try.underlying44 hi hz0 hz1 _ _ _ (xs.length + 1) rfl rfl (by omega) ?m1 ?m2 ?m3 ?_)
      case m1 => rw [hz2]; omega
      case m2 => unfold maxLen; omega
      case m3 => exact Nat.le_refl _
      intro w3 hown hgr
      have hb3 : Below w2.heap.size w2 w3 := (Below.refl _ _).grown hgr (Nat.le_refl _) (by simp)
      have hz3 : w2.heap.size < w3.heap.size := own_lt hown
      clear hgr
      go_wp2_with (at_builtin; refine wpList_append_fits _ rfl (.tmp 45) (.tmp 47) 44 rfl w2.heap.size 9 i0 1 Try.underlying44 hi hz1 w2.heap.size 0 (xs.length + 1) [] rfl (hown.alloc _) ⟨w3.heap.size, 0, none⟩ 1 1 [.string x] rfl rfl ?f1 ?f2 ?f3 ?_)
      case f1 => intro j u hj; match j, hj with | 0, hj => simp at hj; subst hj; simp [Addr.add]
      case f2 => intro u hu; simp at hu; subst hu; rfl
      case f3 => omega
      intro w4 hown4 hgr4
      have hb4 : Below w2.heap.size w2 w4 := (hb3.alloc (by omega) _).grown hgr4 (by simp; omega) (by intro k hk; simp at hk; omega)
      clear hgr4 hown hb3 hz3
      have hown5 : w4.ownsRow w2.heap.size 9 1 (.slice (some ⟨w2.heap.size, 0, none⟩) 1 (xs.length + 1)) 1 [.string x] := hown4
      clear hown4
      go_wp2
      go_loopw [7, 8] (fun v i wr => ∃ m : Nat, m ≤ xs.length ∧ i = .int .i64 m ∧ v = .slice (some ⟨w2.heap.size, 0, none⟩) (m + 1) (xs.length + 1) ∧ wr.ownsRow w2.heap.size 9 1 (.slice (some ⟨w2.heap.size, 0, none⟩) (m + 1) (xs.length + 1)) (m + 1) (allV x xs m) ∧ Below w2.heap.size w2 wr) (fun _ i _ => xs.length - (intOf i).toNat)
      case atStart => exact ⟨0, Nat.zero_le _, rfl, rfl, by simpa [allV] using hown5, hb4⟩
      case round =>
        clear hown5 hb4
        obtain ⟨m, hm, rfl, rfl, hown, hbr⟩ := hrel
        by_cases hlt2 : m < xs.length
        · obtain ⟨y, hy⟩ : ∃ y, xs[m]? = some y := ⟨_, List.getElem?_eq_getElem hlt2⟩
          have HL : Hid (allV x xs m ++ [.string y] = allV x xs (m + 1)) := allV_succ x xs m y hy
          obtain ⟨b, off, rfl, hblt, hc⟩ := hs' m y hy
          have hcr : wr.cell? ⟨b, off + m, none⟩ = some (.string y) := (hbr.cell (p := ⟨b, off + m, none⟩) hblt).trans hc
          have hzr : w2.heap.size < wr.heap.size := own_lt hown
          clear hs' hy hc
          go_wp2_with (at_builtin; refine wpList_append_fits _ rfl (.tmp 55) (.tmp 60) 44 rfl w2.heap.size 9 i0 1 Try.underlying44 hi hz1 w2.heap.size (m + 1) (xs.length + 1) _ rfl (hown.alloc _) ⟨wr.heap.size, 0, none⟩ 1 1 [.string y] rfl rfl ?g1 ?g2 ?g3 ?_)
          case g1 => intro j u hj; match j, hj with | 0, hj => simp at hj; subst hj; simp [Addr.add]
          case g2 => intro u hu; simp at hu; subst hu; rfl
          case g3 => omega
          intro w5 hown5 hgr5
          have hb5 : Below w2.heap.size w2 w5 := (hbr.alloc (by omega) _).grown hgr5 (by simp; omega) (by intro k hk; simp at hk; omega)
          rw [HL.out] at hown5
          clear hgr5 hown hbr hzr hcr
          go_wp2
          go_roundw
          case rel => exact ⟨m + 1, by omega, by go_num, rfl, hown5, hb5⟩
          case measure => simp [intOf]; omega
        · have hzr : w2.heap.size < wr.heap.size := own_lt hown
          have hsat : SAt wr (some ⟨w2.heap.size, 0, none⟩) (x :: xs) := sat_cons (by omega) hown
          have hsr : SAt wr a' xs := hs'.kept hbr
          have hbw : Below w1.heap.size w1 wr := hb2.trans (hbr.mono hb2.size)
          have hme : m = xs.length := by omega
          subst hme
          clear hown hbr hs' hb2 hzr
          go_wp2_with fail
          have cO := zzOrList_any (some ⟨w2.heap.size, 0, none⟩) (x :: xs) (xs.length + 1) wr hsat (by simp) (by simp; omega) (by simp) (by rw [tot_cons]; omega)
          simp only [List.length_cons] at cO
          refine cO.mono ?_
          clear cO
          rintro e w6 ⟨rfl, hb6⟩
          have hs6 : SAt w6 a' xs := hsr.kept hb6
          have hbw6 : Below w1.heap.size w1 w6 := hbw.trans (hb6.mono hbw.size)
          clear hsr hbw hb6 hsat
          by_cases h0 : xs.length = 0
          · have hx0 : xs = [] := List.length_eq_zero_iff.1 h0
            have hE : ((orB (x :: xs)).toList == x.toList) = true := by rw [hx0, orB_one]; simp
            have h0' : ((xs.length : Int) == 0) = true := by rw [h0]; rfl
            clear hs6 hx0 h0
            go_wp2
            go_ret
            exact ⟨rfl, hbw6⟩
          have h0' : ((xs.length : Int) == 0) = false := beq_eq_false_iff_ne.2 (by omega)
          obtain ⟨b, off, rfl, hblt, hc⟩ := hs6.addr (by omega)
          by_cases h1 : xs.length = 1
          · obtain ⟨y, hy⟩ : ∃ y, xs = [y] := List.length_eq_one_iff.1 h1
            have hE : ((orB (x :: xs)).toList == (x ++ ⟨#[32, 111, 114, 32]⟩ ++ y).toList) = true := by rw [hy, orB_cons1]; simp
            have h1' : ((xs.length : Int) == 1) = true := by rw [h1]; rfl
            have hcy : w6.cell? ⟨b, off, none⟩ = some (.string y) := by simpa using hc 0 y (by rw [hy]; rfl)
            have hlp : (0 : Int) < (xs.length : Int) := by omega
            have hyl := size_of_mem HG.out (k := 0) (y := y) (by rw [hy]; rfl)
            clear hs6 hy h1 h0 hc
            go_wp2
            go_ret
            exact ⟨rfl, hbw6⟩
          · have h1' : ((xs.length : Int) == 1) = false := beq_eq_false_iff_ne.2 (by omega)
            have hE : ((orB (x :: xs)).toList == (x ++ ⟨#[44, 32]⟩ ++ orB xs).toList) = true := by rw [orB_cons2 x xs (by omega)]; simp
            have hol : (orB xs).size ≤ 100000000 := by have := orB_size xs (by omega); omega
            have hl1 : 1 ≤ xs.length := by omega
            clear hc h1 h0
            go_wp2_with fail
            refine (zzOrList_any (some ⟨b, off, none⟩) xs cap' w6 hs6 hl1 (by omega) hc' (by omega)).mono ?_
            clear hs6
            rintro e w7 ⟨rfl, hb7⟩
            have hbw7 : Below w1.heap.size w1 w7 := hbw6.trans (hb7.mono hbw6.size)
            clear hb7 hbw6
            go_wp2
            go_ret
            exact ⟨rfl, hbw7⟩

end Go.Proofs.Qxb6605295a
