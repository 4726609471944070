/-
  Scorers that have not passed a target; their places told by the target alone.
-/
import Derived.Test.YbulkchngScorer
import Derived.Test.YbulkchngFrm
namespace Go.Proofs.Ybulkchng
open Go.RowKit

/-- How many of the documents lie below t. -/
def rk (n : Nat) (D : Nat → Nat) (t : Nat) : Nat := (List.range n).countP (fun i => decide (D i < t))

/-- The documents go up. -/
def Up (n : Nat) (D : Nat → Nat) : Prop := ∀ i j, i < j → j < n → D i < D j

theorem rk_le (n : Nat) (D : Nat → Nat) (t : Nat) : rk n D t ≤ n := by
  have := List.countP_le_length (p := fun i => decide (D i < t)) (l := List.range n)
  simpa [rk] using this
theorem rk_mono (n : Nat) (D : Nat → Nat) {t t' : Nat} (h : t ≤ t') : rk n D t ≤ rk n D t' := by
  unfold rk
  refine List.countP_mono_left fun x _ hx => ?_
  simp at hx ⊢; omega
theorem rk_eq {n : Nat} {D : Nat → Nat} (hu : Up n D) {t p : Nat} (hp : p ≤ n) (hl : ∀ i, i < p → D i < t) (hg : p = n ∨ t ≤ D p) : rk n D t = p := by
  unfold rk
  have e : List.range n = List.range p ++ (List.range (n - p)).map (p + ·) := by rw [← List.range_add]; congr 1; omega
  rw [e, List.countP_append]
  have h1 : (List.range p).countP (fun i => decide (D i < t)) = p := by
    rw [List.countP_eq_length.2 (fun a ha => by simp at ha ⊢; exact hl a ha)]; simp
  have h2 : ((List.range (n - p)).map (p + ·)).countP (fun i => decide (D i < t)) = 0 := by
    rw [List.countP_eq_zero]
    intro a ha
    simp at ha ⊢
    obtain ⟨k, hk, rfl⟩ := ha
    rcases hg with hg | hg
    · omega
    · by_cases h0 : k = 0
      · subst h0; exact hg
      · have := hu p (p + k) (by omega) (by omega); omega
  omega
theorem rk_spec {n : Nat} {D : Nat → Nat} (hu : Up n D) (t : Nat) : (∀ i, i < rk n D t → D i < t) ∧ (rk n D t = n ∨ t ≤ D (rk n D t)) := by
  have key : ∀ k, k ≤ n → ∃ p, p ≤ k ∧ (∀ i, i < p → D i < t) ∧ (p = k ∨ t ≤ D p) := by
    intro k
    induction k with
    | zero => exact fun _ => ⟨0, Nat.le_refl _, fun i h => by omega, Or.inl rfl⟩
    | succ k ih =>
      intro hk
      obtain ⟨p, h1, h2, h3⟩ := ih (by omega)
      rcases h3 with h3 | h3
      · subst h3
        by_cases hd : D p < t
        · exact ⟨p + 1, Nat.le_refl _, fun i hi => by
            by_cases e : i = p
            · subst e; exact hd
            · exact h2 i (by omega), Or.inl rfl⟩
        · exact ⟨p, by omega, h2, Or.inr (by omega)⟩
      · exact ⟨p, by omega, h2, Or.inr h3⟩
  obtain ⟨p, h1, h2, h3⟩ := key n (Nat.le_refl _)
  rw [rk_eq hu h1 h2 h3]
  exact ⟨h2, h3⟩
theorem comes_rk {n : Nat} {D : Nat → Nat} (hu : Up n D) {q t p : Nat} (hq : q ≤ rk n D t) (hc : Comes n D q (t : Int) p) : p = rk n D t := by
  refine (rk_eq hu hc.le (fun i hi => ?_) ?_).symm
  · by_cases h : q ≤ i
    · have := hc.low i h hi; omega
    · exact (rk_spec hu t).1 i (by omega)
  · rcases hc.stop with h | h
    · exact Or.inl h
    · exact Or.inr (by omega)

/-- The scorer has not passed the target t. -/
def Tends (L : Lies) (D S : Nat → Nat) (t : Nat) (w : World) : Prop := ∃ q : Int, ScorAt L D S q w ∧ (q = -1 ∨ ∃ k : Nat, q = (k : Int) ∧ k ≤ rk L.n D t)

theorem Tends.mono {L : Lies} {D S : Nat → Nat} {t t' : Nat} {w : World} (h : Tends L D S t w) (ht : t ≤ t') : Tends L D S t' w := by
  obtain ⟨q, h1, h2⟩ := h
  refine ⟨q, h1, ?_⟩
  rcases h2 with h2 | ⟨k, h2, h3⟩
  · exact Or.inl h2
  · exact Or.inr ⟨k, h2, Nat.le_trans h3 (rk_mono _ _ ht)⟩
theorem Tends.of {L : Lies} {D S : Nat → Nat} {t : Nat} {w : World} (h : ScorAt L D S (rk L.n D t : Int) w) : Tends L D S t w := ⟨_, h, Or.inr ⟨_, rfl, Nat.le_refl _⟩⟩
theorem Tends.kept {L : Lies} {D S : Nat → Nat} {t : Nat} {w w' : World} {row : Option Nat} (h : Tends L D S t w) (hg : w.grownBy w' row) (h1 : row ≠ some L.sb) (h2 : row ≠ some L.db) (h3 : row ≠ some L.fb) : Tends L D S t w' := by
  obtain ⟨q, a, b⟩ := h
  exact ⟨q, a.kept hg h1 h2 h3, b⟩

/-- What advance answers. -/
def nextDoc (L : Lies) (D : Nat → Nat) (t : Nat) : Int := docAt L.n D (rk L.n D t)

theorem advance_at (L : Lies) (D S : Nat → Nat) (t : Nat) (w : World) (h : Tends L D S t w) (hu : Up L.n D) (hn : L.n ≤ 2048) :
    Calls Yba.prog 59 #[.pointer (some ⟨L.sb, 0, none⟩), .int .i64 t] w fun e w' => e = .returned (.int .i64 (nextDoc L D t)) ∧ ScorAt L D S (rk L.n D t : Int) w' ∧ w.grownBy w' (some L.sb) := by
  obtain ⟨q, h1, h2⟩ := h
  obtain ⟨sb, db, fb, da, fa, n, dc, fc⟩ := L
  rcases h2 with rfl | ⟨k, rfl, hk⟩
  · refine (advance_start sb db fb da fa n dc fc D S t w h1 hn).mono ?_
    rintro e w' ⟨p, hc, rfl, hs, hg⟩
    have hp := comes_rk hu (Nat.zero_le _) hc
    subst hp
    exact ⟨rfl, hs, hg⟩
  · refine (advance_on sb db fb da fa n dc fc k D S t w h1 (Nat.le_trans hk (rk_le _ _ _)) hn).mono ?_
    rintro e w' ⟨p, hc, rfl, hs, hg⟩
    have hp := comes_rk hu hk hc
    subst hp
    exact ⟨rfl, hs, hg⟩

theorem rk_step {n : Nat} {D : Nat → Nat} (hu : Up n D) {t d : Nat} (ht : t ≤ d) (hd : (d : Int) < docAt n D (rk n D t)) : rk n D (d + 1) = rk n D t := by
  have h := rk_spec hu t
  refine rk_eq hu (rk_le _ _ _) (fun i hi => by have := h.1 i hi; omega) ?_
  unfold docAt at hd
  split at hd
  · exact Or.inr (by omega)
  · exact Or.inl (by have := rk_le n D t; omega)

/-- d is among the documents. -/
def hasB (n : Nat) (D : Nat → Nat) (d : Nat) : Bool := decide (docAt n D (rk n D d) = (d : Int))
theorem hasB_lt {n : Nat} {D : Nat → Nat} {d : Nat} (hd : d < 100000) (h : hasB n D d = true) : rk n D d < n ∧ D (rk n D d) = d := by
  unfold hasB docAt at h
  simp at h
  split at h
  · exact ⟨by assumption, by omega⟩
  · omega
end Go.Proofs.Ybulkchng
