/-
  The kept matches, put in order, are the first of all the matches put in order: the plain law.
-/
import Derived.Test.YbulkchngHeap
namespace Go.Proofs.Ybulkchng
open Go.Sort

theorem antiTop (x y : Mt) (h1 : ltTop x y = false) (h2 : ltTop y x = false) : x = y := by
  simp [ltTop] at h1 h2
  exact Prod.ext (by omega) (by omega)

def leTop (x y : Mt) : Bool := !ltTop y x
theorem leTop_total (x y : Mt) : (leTop x y || leTop y x) = true := by
  unfold leTop
  cases h : ltTop y x with
  | false => rfl
  | true => simp [swoTop.asymmA h]
theorem leTop_trans (x y z : Mt) (h1 : leTop x y = true) (h2 : leTop y z = true) : leTop x z = true := by
  unfold leTop at *
  simp only [Bool.not_eq_true'] at *
  exact swoTop.ntrans _ _ _ h2 h1

theorem get_list (l : List Mt) (i : Nat) (hi : i < l.length) : l.toArray[i]! = l[i] := by
  rw [getElem!_pos l.toArray i (by simpa using hi)]; simp

/-- A list in order is THE list in order. -/
theorem ordered_eq (l m : List Mt) (hp : l.Perm m) (hs : l.Pairwise fun x y => leTop x y = true) : l = m.mergeSort leTop := by
  have hlen : l.length = m.length := hp.length_eq
  have h1 : PermIn 0 m.toArray.size m.toArray l.toArray := by
    refine ⟨by simpa using hlen, fun i hi => ?_, ?_⟩
    · have hi' : m.length ≤ i := by simpa using hi
      rw [getElem!_neg _ _ (by simp; omega), getElem!_neg _ _ (by simp; omega)]
    · simp only [List.size_toArray]
      have e1 : (l.toArray.extract 0 m.length).toList = l := by simp [← hlen]
      have e2 : (m.toArray.extract 0 m.length).toList = m := by simp
      rw [e1, e2]; exact hp
  have h2 : SortedIn ltTop 0 m.toArray.size l.toArray := fun i j _ hij hj => by
    have hj' : j < l.length := by simpa [hlen] using hj
    rw [get_list l i (by omega), get_list l j hj']
    have := List.pairwise_iff_getElem.1 hs i j (by omega) hj' hij
    simpa [leTop] using this
  have e : l.toArray.toList = m.toArray.toList.mergeSort leTop := sorted_unique_holds swoTop antiTop m.toArray l.toArray h1 h2
  simpa using e

theorem top_eq {limit : Nat} {d h A H : Array Mt} (k : Kept limit d.toList h) (pA : PermIn 0 d.size d A) (sA : SortedIn ltTop 0 d.size A) (pH : PermIn 0 h.size h H) (sH : SortedIn ltTop 0 h.size H) : ∃ R, A.toList = H.toList ++ R ∧ (h.size < limit → R = []) := by
  have eA : A.toList = d.toList.mergeSort leTop := sorted_unique_holds swoTop antiTop d A pA sA
  have eH : H.toList = h.toList.mergeSort leTop := sorted_unique_holds swoTop antiTop h H pH sH
  obtain ⟨rest, h1, h2, h3⟩ := k.best
  refine ⟨rest.mergeSort leTop, ?_, fun hl => by rw [h3 hl]; simp⟩
  rw [eA, eH]
  refine (ordered_eq _ _ ?_ ?_).symm
  · exact ((List.mergeSort_perm h.toList leTop).append (List.mergeSort_perm rest leTop)).trans h1
  · rw [List.pairwise_append]
    refine ⟨List.pairwise_mergeSort leTop_trans leTop_total h.toList, List.pairwise_mergeSort leTop_trans leTop_total rest, fun x hx y hy => ?_⟩
    have hx' := (List.mergeSort_perm h.toList leTop).mem_iff.1 hx
    have hy' := (List.mergeSort_perm rest leTop).mem_iff.1 hy
    simp [leTop, h2 x hx' y hy']
end Go.Proofs.Ybulkchng
