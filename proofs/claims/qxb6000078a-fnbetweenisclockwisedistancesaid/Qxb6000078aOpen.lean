/-
  Seat b6000078a: arrays of twenty bytes that came in.
-/
import Derived.Test.Qxb6000078aWalks3
import Derived.ProofKit
import Derived.OpenShut
namespace Go.Proofs.Qxb6000078a
open Go.ChangeShapes Go.WideShapes Go.ChangeAt Go.RowKit

theorem own : ownKnob Try.prog.godebug = none := by kernel_rfl
theorem laidOut : laidOutB Try.prog = true := by kernel_rfl
theorem cells24 : Try.prog.cellsOf 24 = 20 := by kernel_rfl
theorem cells5 : Try.prog.cellsOf 5 = 1 := by kernel_rfl

/-- The number in a cell. -/
def numOfCell : Value → Int
  | .int _ z => z
  | _ => 0

/-- An array of twenty bytes that came in. -/
theorem open_arr {H : Type} {enc : TypeId × Value → H} {W : World} {base : Nat} {v : Value} {d : DataW H} {p : List MemPlace} {b0 : Nat} {sp : Nat → Bool} {held : Bool}
    (hv : Value.okWide Try.prog W .any base 24 v) (h : DataW.Trod enc Try.prog W b0 sp held 24 v d p) : ∃ l : List Int, v = .agg (bcs l) ∧ l.length = 20 ∧ Byt l := by
  obtain ⟨cs, rfl, hsz, _⟩ : ∃ cs, v = .agg cs ∧ cs.size = Try.prog.cellsOf 24 ∧ Row.okWide Try.prog W .any base 24 cs := by
    simpa [Value.okWide, Try.underlying24] using hv
  rw [cells24] at hsz
  obtain ⟨fuel, hf⟩ := h
  obtain ⟨xs, m, _, _, _, hn, hy⟩ := DataW.trod_array Try.underlying24 hf
  rw [cells5] at hy
  have key : ∀ i, i < 20 → ∃ z : Int, cs[i]? = some (.int .u8 z) ∧ 0 ≤ z ∧ z ≤ 255 := by
    intro i hi
    have h1 := hy i hi
    have hi' : i < cs.toList.length := by simp; omega
    have e : ((Value.agg cs).cells.toList.drop (i * 1)).take 1 = [cs.toList[i]] := by
      simp only [Value.cells, Nat.mul_one]
      rw [List.drop_eq_getElem_cons hi']
      rfl
    rw [e, List.getElem?_eq_getElem (by omega)] at h1
    obtain ⟨z, e0, _, wz⟩ := DataW.trod_int Try.underlying5 h1
    have e1 : cs.toList[i] = .int .u8 z := by simpa using e0
    refine ⟨z, ?_, bounds_u8 wz⟩
    rw [← Array.getElem?_toList, List.getElem?_eq_getElem hi', e1]
  refine ⟨cs.toList.map numOfCell, ?_, by simp [hsz], ?_⟩
  · congr 1
    apply Array.ext_getElem?
    intro i
    rw [bcs_get, List.getElem?_map, Array.getElem?_toList]
    by_cases hi : i < 20
    · obtain ⟨z, hz, _⟩ := key i hi
      rw [hz]
      rfl
    · rw [Array.getElem?_eq_none (by omega)]
      rfl
  · intro z hz
    obtain ⟨c, hc, rfl⟩ := List.mem_map.1 hz
    obtain ⟨i, hi, rfl⟩ := List.getElem_of_mem hc
    obtain ⟨z, hz, hb⟩ := key i (by simpa [hsz] using hi)
    have e1 : cs.toList[i] = .int .u8 z := by
      rw [← Array.getElem?_toList, List.getElem?_eq_getElem hi] at hz
      simpa using hz
    rw [e1]
    exact hb

end Go.Proofs.Qxb6000078a
