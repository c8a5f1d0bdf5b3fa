import Derived.Test.Qxb6605375aRows
import Derived.Test.Qxb6605375aCf
import Derived.ProofKit
import Derived.OpenShut
namespace Go.Proofs.Qxb6605375a
open Go.ChangeShapes Go.WideShapes Go.ChangeAt Go.RowKit

theorem cells23 : Try.prog.cellsOf 23 = 1 := by kernel_rfl
theorem cells24 : Try.prog.cellsOf 24 = 256 := by kernel_rfl
theorem cells5 : Try.prog.cellsOf 5 = 1 := by kernel_rfl

/-- AN ARRAY OF 256 uint64 THAT CAME IN BY VALUE, OPENED -/
theorem open_gear {H : Type} {enc : TypeId × Value → H} {w : World} {base b0 : Nat} {spare : Nat → Bool} {held : Bool} {r : Reach} {v : Value} {d : DataW H} {p : List MemPlace}
    (hv : Value.okWide Try.prog w r b0 24 v) (h : DataW.Trod enc Try.prog w base spare held 24 v d p) : ∃ gs : List Int, gs.length = 256 ∧ v = .agg (gearV gs) := by
  simp only [Value.okWide, Try.underlying24] at hv
  obtain ⟨cs, rfl, hsz, _⟩ := hv
  rw [cells24] at hsz
  obtain ⟨fuel, hf⟩ := h
  obtain ⟨xs, n, _, _, _, hx, hall⟩ := DataW.trod_array Try.underlying24 hf
  refine ⟨cs.toList.map intOf, by simp [hsz], ?_⟩
  have key : ∀ i, i < 256 → ∃ m, cs.toList[i]? = some (.int .u64 m) := by
    intro i hi
    have h1 := hall i hi
    rw [cells23, Nat.mul_one, List.getElem?_eq_getElem (by omega)] at h1
    obtain ⟨m, hm, _⟩ := DataW.trod_int Try.underlying23 h1
    refine ⟨m, ?_⟩
    have h2 := congrArg (fun l => l[0]?) hm
    simpa [List.getElem?_take, List.getElem?_drop, Value.cells] using h2
  have e : (cs.toList.map intOf).map (Value.int .u64) = cs.toList := by
    refine List.ext_getElem? fun i => ?_
    rw [List.getElem?_map, List.getElem?_map]
    by_cases hi : i < 256
    · obtain ⟨m, hm⟩ := key i hi
      rw [hm]; rfl
    · rw [List.getElem?_eq_none (by simp; omega)]; rfl
  unfold gearV
  rw [e]

/-- A []byte THAT CAME IN, OPENED -/
theorem open_bytes {H : Type} {enc : TypeId × Value → H} {W : World} {a : Option Addr} {len cap : Nat} {d : DataW H} {p : List MemPlace} (h : DataW.Trod enc Try.prog W 0 (fun _ => true) true 25 (.slice a len cap) d p) :
    ∃ zs : List Int, len = zs.length ∧ BAt W a zs ∧ (a = none → zs.length = 0) ∧ ∀ i, 0 ≤ zs.getD i 0 ∧ zs.getD i 0 ≤ 255 := by
  obtain ⟨fuel, hf⟩ := h
  rcases open_ints Try.underlying25 Try.underlying5 cells5 hf with ⟨hcs, _⟩ | ⟨x, l, c, zs, hcs, _, hl, hm, hz, _, hcell, hwz⟩
  · simp [Value.cells] at hcs
    obtain ⟨rfl, rfl, rfl⟩ := hcs
    exact ⟨[], rfl, fun i hi => by simp at hi, fun _ => rfl, fun i => by simp⟩
  · simp [Value.cells] at hcs
    obtain ⟨rfl, rfl, rfl⟩ := hcs
    simp only [if_true] at hz
    have hlen : (zs.take len).length = len := by rw [List.length_take]; omega
    refine ⟨zs.take len, hlen.symm, fun i hi => ?_, fun h => absurd h (by simp), fun i => ?_⟩
    · have hc := hcell i (by omega)
      obtain ⟨b, off, spot⟩ := x
      have hspot : spot = none := by simpa [Addr.add] using World.cell?_spot (hcell 0 (by omega))
      subst hspot
      rw [add_plain] at hc
      rw [getD_take zs len i (by omega)]
      exact ⟨b, off, rfl, World.block_lt_of_cell? W _ hc, hc⟩
    · by_cases hi : i < (zs.take len).length
      · have hmem : (zs.take len)[i] ∈ zs := List.mem_of_mem_take (List.getElem_mem hi)
        have hw := hwz _ hmem
        rw [List.getD_eq_getElem?_getD, List.getElem?_eq_getElem hi]
        have := bounds_u8 hw
        exact this
      · rw [List.getD_eq_getElem?_getD, List.getElem?_eq_none (by omega)]
        decide

end Go.Proofs.Qxb6605375a
