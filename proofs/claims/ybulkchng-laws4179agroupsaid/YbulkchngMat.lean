/-
  The matches, in the order of their documents; no Go.
-/
import Derived.Test.YbulkchngWin
namespace Go.Proofs.Ybulkchng
open Go.RowKit

/-- Document d matches. -/
def isM (X : Cx) (d : Nat) : Bool := ((List.range X.m).any fun t => has X t d) && !proh X d
/-- The matches below t. -/
def offd (X : Cx) (t : Nat) : List Mt := (List.range t).filterMap fun d => if isM X d = true then some ((X.base : Int) + (d : Int), sc X d) else none

theorem offd_succ (X : Cx) (d : Nat) : offd X (d + 1) = offd X d ++ (if isM X d = true then [((X.base : Int) + (d : Int), sc X d)] else []) := by
  unfold offd
  rw [List.range_succ, List.filterMap_append]
  congr 1
  by_cases h : isM X d = true <;> simp [h]
theorem offd_none {X : Cx} {t : Nat} : ∀ k, (∀ e, t ≤ e → e < t + k → isM X e = false) → offd X (t + k) = offd X t
  | 0, _ => rfl
  | k + 1, h => by
    rw [← Nat.add_assoc, offd_succ, offd_none k (fun e h1 h2 => h e h1 (by omega)), h (t + k) (by omega) (by omega)]
    simp
theorem offd_to {X : Cx} {t d : Nat} (ht : t ≤ d) (h : ∀ e, t ≤ e → e < d → isM X e = false) : offd X d = offd X t := by
  obtain ⟨k, rfl⟩ : ∃ k, d = t + k := ⟨d - t, by omega⟩
  exact offd_none k h
theorem offd_length (X : Cx) (t : Nat) : (offd X t).length ≤ t := by
  have := List.length_filterMap_le (fun d => if isM X d = true then some ((X.base : Int) + (d : Int), sc X d) else none) (List.range t)
  simpa [offd] using this

theorem rk_same {n : Nat} {D : Nat → Nat} (hu : Up n D) {t d : Nat} (ht : t ≤ d) (hd : (d : Int) ≤ docAt n D (rk n D t)) : rk n D d = rk n D t := by
  have h := rk_spec hu t
  refine rk_eq hu (rk_le _ _ _) (fun i hi => by have := h.1 i hi; omega) ?_
  unfold docAt at hd
  split at hd
  · exact Or.inr (by omega)
  · exact Or.inl (by have := rk_le n D t; omega)

theorem has_at {X : Cx} (G : Good X) {u t d : Nat} (hu : u < X.N) (ht : t ≤ d) (hd : (d : Int) ≤ nextDoc (X.L u) (X.D u) t) : has X u d = decide (nextDoc (X.L u) (X.D u) t = (d : Int)) := by
  unfold has hasB nextDoc
  rw [rk_same (G.up u hu) ht hd]

theorem none_between {X : Cx} (G : Good X) {t d : Nat} (hmin : ∀ u, u < X.m → (d : Int) ≤ nextDoc (X.L u) (X.D u) t) : ∀ e, t ≤ e → e < d → isM X e = false := fun e h1 h2 => by
  unfold isM
  have : ((List.range X.m).any fun u => has X u e) = false := by
    rw [List.any_eq_false]
    intro u hu
    simp at hu
    have hN := G.mN
    rw [has_at G (by omega) h1 (by have := hmin u hu; omega)]
    have := hmin u hu
    simp; omega
  rw [this]; rfl

theorem isM_at {X : Cx} (G : Good X) {t d : Nat} (ht : t ≤ d) (hmin : ∀ u, u < X.m → (d : Int) ≤ nextDoc (X.L u) (X.D u) t) (hex : ∃ u, u < X.m ∧ nextDoc (X.L u) (X.D u) t = (d : Int)) : isM X d = !proh X d := by
  unfold isM
  have : ((List.range X.m).any fun u => has X u d) = true := by
    rw [List.any_eq_true]
    obtain ⟨u, hu, e⟩ := hex
    have hN := G.mN
    refine ⟨u, by simpa using hu, ?_⟩
    rw [has_at G (by omega) ht (hmin u hu), e]; simp
  rw [this]; simp

/-- The sum of the bounds of the clauses on d. -/
def upp (X : Cx) (t d : Nat) : Nat → Nat
  | 0 => 0
  | i + 1 => upp X t d i + (if nextDoc (X.L i) (X.D i) t = (d : Int) then X.boost i * 1000 else 0)

theorem upp_le {X : Cx} (G : Good X) (t d : Nat) : ∀ i, upp X t d i ≤ i * 2000
  | 0 => Nat.zero_le _
  | i + 1 => by
    have h1 := upp_le G t d i
    have h3 : X.boost i * 1000 ≤ 2 * 1000 := Nat.mul_le_mul_right _ (by rw [G.bo]; split <;> omega)
    have h4 : (if nextDoc (X.L i) (X.D i) t = (d : Int) then X.boost i * 1000 else 0) ≤ 2000 := by
      split
      · exact h3
      · exact Nat.zero_le _
    have h5 : upp X t d (i + 1) = upp X t d i + (if nextDoc (X.L i) (X.D i) t = (d : Int) then X.boost i * 1000 else 0) := rfl
    rw [h5]
    omega

theorem fl_1000 : fl 1000 = 4652007308841189376 := by kernel_rfl
theorem fl_2000 : fl 2000 = 4656510908468559872 := by kernel_rfl
theorem fl_3000 : fl 3000 = 4658815484840378368 := by kernel_rfl

theorem upp_beats {X : Cx} (G : Good X) {t d : Nat} (hex : ∃ u, u < X.m ∧ nextDoc (X.L u) (X.D u) t = (d : Int)) : Beats (fl (upp X t d X.m)) := by
  have b1 : Beats (fl 1000) := by rw [fl_1000]; exact beats_1000
  have b2 : Beats (fl 2000) := by rw [fl_2000]; exact beats_2000
  have b3 : Beats (fl 3000) := by rw [fl_3000]; exact beats_3000
  have e1 : upp X t d 1 = (if nextDoc (X.L 0) (X.D 0) t = (d : Int) then 1000 else 0) := by
    show 0 + (if _ then _ else _) = _
    rw [G.bo]; simp
  have e2 : upp X t d 2 = upp X t d 1 + (if nextDoc (X.L 1) (X.D 1) t = (d : Int) then 2000 else 0) := by
    show _ + (if _ then _ else _) = _
    rw [G.bo]; simp
  obtain ⟨u, hu, e⟩ := hex
  have hm := G.m2
  have : X.m = 1 ∨ X.m = 2 := by omega
  rcases this with h | h
  · obtain rfl : u = 0 := by omega
    rw [h, e1, if_pos e]; exact b1
  · rw [h, e2, e1]
    have : u = 0 ∨ u = 1 := by omega
    rcases this with rfl | rfl
    · rw [if_pos e]
      split
      · exact b3
      · exact b1
    · rw [if_pos e]
      split
      · exact b3
      · exact b2
end Go.Proofs.Ybulkchng
