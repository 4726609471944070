/-
  The matches of one clause are its documents.
-/
import Derived.Test.YbulkchngSeg
import Derived.Test.YbulkchngFin
namespace Go.Proofs.Ybulkchng
open Go.RowKit Go.Sort

theorem rk_zero {n : Nat} {D : Nat → Nat} : rk n D 0 = 0 := by
  unfold rk; rw [List.countP_eq_zero]; intro a _; simp
theorem rk_all {n : Nat} {D : Nat → Nat} (hu : Up n D) {t : Nat} (h : ∀ i, i < n → D i < t) : rk n D t = n := rk_eq hu (Nat.le_refl _) h (Or.inl rfl)

/-- The matches of documents with base. -/
def mts (base : Nat) (l : List (Nat × Nat)) : List Mt := l.map fun x => ((base : Int) + (x.1 : Int), x.2)

theorem offd_one {X : Cx} (hN : X.N = 1) (hm : X.m = 1) (hb : X.boost 0 = 1) (l : List (Nat × Nat)) (hl : (X.L 0).n = l.length) (hD : ∀ i, i < l.length → X.D 0 i = (l.getD i (0, 0)).1) (hS : ∀ i, i < l.length → X.S 0 i = (l.getD i (0, 0)).2) (hu : Up (X.L 0).n (X.D 0)) (hdn : ∀ i, i < l.length → X.D 0 i < X.n) (hn1 : X.n ≤ 1024) :
    offd X X.n = mts X.base l := by
  have key : ∀ t, t ≤ 1024 → offd X t = mts X.base (l.take (rk (X.L 0).n (X.D 0) t)) := by
    intro t
    induction t with
    | zero => intro _; rw [rk_zero]; rfl
    | succ t ih =>
      intro ht
      rw [offd_succ, ih (by omega)]
      have hp : proh X t = false := by unfold proh; rw [hN, hm]; rfl
      have hM : isM X t = has X 0 t := by unfold isM; rw [hp, hm]; simp
      rw [hM]
      cases hh : has X 0 t with
      | true =>
        have hr := hasB_lt (by omega) hh
        have hrk : rk (X.L 0).n (X.D 0) (t + 1) = rk (X.L 0).n (X.D 0) t + 1 := by
          refine rk_eq hu (by omega) (fun i hi => ?_) ?_
          · by_cases e : i = rk (X.L 0).n (X.D 0) t
            · rw [e, hr.2]; omega
            · have := (rk_spec hu t).1 i (by omega); omega
          · by_cases e : rk (X.L 0).n (X.D 0) t + 1 = (X.L 0).n
            · exact Or.inl e
            · have := hu (rk (X.L 0).n (X.D 0) t) (rk (X.L 0).n (X.D 0) t + 1) (by omega) (by omega)
              exact Or.inr (by omega)
        have hlt : rk (X.L 0).n (X.D 0) t < l.length := by omega
        rw [hrk, List.take_add_one, List.getElem?_eq_getElem hlt]
        have e1 : (l[rk (X.L 0).n (X.D 0) t]).1 = t := by
          have := hD _ hlt
          rw [hr.2] at this
          simpa [hlt] using this.symm
        have e2 : sc X t = (l[rk (X.L 0).n (X.D 0) t]).2 := by
          unfold sc
          rw [hN]
          show 0 + part X t 0 = _
          unfold part
          rw [if_pos ⟨by omega, hh⟩, hb, hS _ hlt]
          simp [hlt]
        rw [if_pos rfl, e2]
        unfold mts
        rw [List.map_append]
        simp only [Option.toList_some, List.map_cons, List.map_nil, e1]
      | false =>
        have hge : (t : Int) ≤ docAt (X.L 0).n (X.D 0) (rk (X.L 0).n (X.D 0) t) := nextDoc_ge hu (by omega)
        have hne : docAt (X.L 0).n (X.D 0) (rk (X.L 0).n (X.D 0) t) ≠ (t : Int) := by unfold has hasB at hh; simpa using hh
        rw [rk_step hu (Nat.le_refl _) (by omega)]
        simp
  rw [key X.n hn1, rk_all hu (fun i hi => hdn i (by omega)), hl, List.take_length]

theorem kept_size {limit : Nat} {off : List Mt} {h : Array Mt} (k : Kept limit off h) : min off.length limit = h.size := by
  obtain ⟨rest, hp, _, hr⟩ := k.best
  have hl := hp.length_eq
  have hle := k.le
  simp at hl
  by_cases e : h.size < limit
  · rw [hr e] at hl; simp at hl; omega
  · omega

theorem kept_same {limit : Nat} {d h A : Array Mt} (k : Kept limit d.toList h) (pA : PermIn 0 d.size d A) (sA : SortedIn ltTop 0 d.size A) : ∀ H, PermIn 0 h.size h H → SortedIn ltTop 0 h.size H → ∀ t, t < h.size → H[t]! = A[t]! := fun H pH sH t ht => by
  obtain ⟨R, hR, _⟩ := top_eq k pA sA pH sH
  have hHs : H.size = h.size := pH.1
  have h1 : A.toList[t]? = H.toList[t]? := by
    rw [hR, List.getElem?_append_left (by simp; omega)]
  have h2 : A[t]? = H[t]? := by simpa using h1
  have hAs : t < A.size := by have := congrArg List.length hR; simp at this; omega
  have hHt : t < H.size := by omega
  rw [getElem!_pos A t hAs, getElem!_pos H t hHt]
  rw [Array.getElem?_eq_getElem hAs, Array.getElem?_eq_getElem hHt] at h2
  injection h2 with h2
  exact h2.symm
end Go.Proofs.Ybulkchng
