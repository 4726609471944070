/-
  An argument of type [20]byte, opened.
-/
import Derived.Test.YbulkchmeArr
import Derived.ProofKit
import Derived.OpenShut
namespace Go.Proofs.Ybulkchme
open Go.ChangeShapes Go.WideShapes Go.ChangeAt Go.RowKit

theorem cells22 : Yba.prog.cellsOf 22 = 20 := by kernel_rfl
theorem cells5 : Yba.prog.cellsOf 5 = 1 := by kernel_rfl

theorem byte_of_wf {x : Int} (h : (Lit.int .u8 x).wf = true) : 0 ≤ x ∧ x < 256 := by
  simp [Lit.wf, IntKind.min, IntKind.max, IntKind.signed, IntKind.bits] at h
  omega

theorem open_arr {H : Type} {enc : TypeId × Value → H} {W : World} {r : Reach} {b0 base : Nat} {sp : Nat → Bool} {held : Bool} {v : Value} {d : DataW H} {p : List MemPlace}
    (hv : Value.okWide Yba.prog W r b0 22 v) (h : DataW.Trod enc Yba.prog W base sp held 22 v d p) : ∃ z, v = .agg (arr z) ∧ Bytes z := by
  simp only [Value.okWide, Yba.underlying22] at hv
  obtain ⟨cs, rfl, hsz, _⟩ := hv
  rw [cells22] at hsz
  obtain ⟨fuel, hf⟩ := h
  obtain ⟨xs, m, _, _, _, hxl, hat⟩ := DataW.trod_array Yba.underlying22 hf
  have key : ∀ j, ∃ n : Int, (j < 20 → cs[j]? = some (.int .u8 n)) ∧ 0 ≤ n ∧ n < 256 := fun j => by
    by_cases hj : j < 20
    · have h1 := hat j hj
      rw [cells5, Nat.mul_one] at h1
      rw [List.getElem?_eq_getElem (by omega)] at h1
      obtain ⟨n, hn, _, hw⟩ := DataW.trod_int Yba.underlying5 h1
      refine ⟨n, fun _ => ?_, byte_of_wf hw⟩
      have h2 : ((Value.agg cs).cells.toList.drop j)[0]? = some (.int .u8 n) := by
        have h3 : (((Value.agg cs).cells.toList.drop j).take 1)[0]? = some (.int .u8 n) := by rw [hn]; rfl
        rwa [List.getElem?_take_of_lt (by omega)] at h3
      simpa [Value.cells] using h2
    · exact ⟨0, fun h => absurd h hj, by omega, by omega⟩
  refine ⟨fun j => Classical.choose (key j), ?_, fun j => (Classical.choose_spec (key j)).2⟩
  congr 1
  apply Array.ext_getElem?
  intro j
  rw [arr_opt]
  by_cases hj : j < 20
  · rw [if_pos hj]; exact (Classical.choose_spec (key j)).1 hj
  · rw [if_neg hj, Array.getElem?_eq_none (by omega)]
end Go.Proofs.Ybulkchme
