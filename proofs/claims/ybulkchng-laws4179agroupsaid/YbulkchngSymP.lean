/-
  slices.symMergeCmpFunc: the plain law of its recursive case.
-/
import Derived.Test.YbulkchngSymB
namespace Go.Proofs.Ybulkchng
open Go.RowKit Go.Sort

variable {lt : Mt → Mt → Bool}

theorem rC0 (s m f t : Nat) (h : t < s) : rotI s m f t = t := by unfold rotI; repeat (split <;> try omega)
theorem rC1 (s m f t : Nat) (h1 : s ≤ t) (h2 : t < s + (f - m)) : rotI s m f t = t + (m - s) := by unfold rotI; repeat (split <;> try omega)
theorem rC2 (s m f t : Nat) (h1 : s + (f - m) ≤ t) (h2 : t < f) : rotI s m f t = t - (f - m) := by unfold rotI; repeat (split <;> try omega)
theorem rC3 (s m f t : Nat) (h1 : s ≤ m) (h2 : m ≤ f) (h : f ≤ t) : rotI s m f t = t := by unfold rotI; repeat (split <;> try omega)
theorem rC_same (s m f t : Nat) (h1 : s ≤ m) (h2 : m ≤ f) (h : s = m ∨ f = m) : rotI s m f t = t := by unfold rotI; repeat (split <;> try omega)

/-- Where the two halves are cut. -/
structure Cut (lt : Mt → Mt → Bool) (d : Array Mt) (a m e mid s f : Nat) : Prop where
  sa : a ≤ s
  sm : s ≤ m
  mf : m ≤ f
  fe : f ≤ e
  sum : s + f = mid + m
  left : SortedIn lt a m d
  right : SortedIn lt m e d
  lo : s = a ∨ f = e ∨ lt d[f]! d[s - 1]! = false
  hi : s = m ∨ f = m ∨ lt d[f - 1]! d[s]! = true

section
variable {d d1 d2 d3 : Array Mt} {a m e mid s f : Nat}

theorem Cut.p1 (h : Cut lt d a m e mid s f) (h1 : ∀ t, d1[t]! = d[rotI s m f t]!) : SortedIn lt a s d1 := fun p q hp hpq hq => by
  rw [h1, h1, rC0 s m f p (by omega), rC0 s m f q hq]; exact h.left p q hp hpq (by have := h.sm; omega)
theorem Cut.p2 (h : Cut lt d a m e mid s f) (h1 : ∀ t, d1[t]! = d[rotI s m f t]!) : SortedIn lt s mid d1 := fun p q hp hpq hq => by
  have := h.sum; have := h.sm; have := h.mf; have := h.fe
  rw [h1, h1, rC1 s m f p hp (by omega), rC1 s m f q (by omega) (by omega)]; exact h.right _ _ (by omega) (by omega) (by omega)
theorem Cut.p3 (h : Cut lt d a m e mid s f) (h1 : ∀ t, d1[t]! = d[rotI s m f t]!) : SortedIn lt mid f d1 := fun p q hp hpq hq => by
  have := h.sum; have := h.sm; have := h.mf; have := h.sa
  rw [h1, h1, rC2 s m f p (by omega) (by omega), rC2 s m f q (by omega) hq]; exact h.left _ _ (by omega) (by omega) (by omega)
theorem Cut.p4 (h : Cut lt d a m e mid s f) (h1 : ∀ t, d1[t]! = d[rotI s m f t]!) : SortedIn lt f e d1 := fun p q hp hpq hq => by
  rw [h1, h1, rC3 s m f p h.sm h.mf hp, rC3 s m f q h.sm h.mf (by omega)]; exact h.right _ _ (by have := h.mf; omega) hpq hq

/-- Nothing above is less than what lies below. -/
theorem Cut.cross (hS : SWO lt) (h : Cut lt d a m e mid s f) (h1 : ∀ t, d1[t]! = d[rotI s m f t]!) (p q : Nat) (hp : a ≤ p) (hpm : p < mid) (hq : mid ≤ q) (hqe : q < e) : lt d1[q]! d1[p]! = false := by
  have := h.sum; have := h.sm; have := h.mf; have := h.fe; have := h.sa
  have low : ∀ x, a ≤ x → x < s → ∀ y, f ≤ y → y < e → lt d[y]! d[x]! = false := fun x hx1 hx2 y hy1 hy2 => by
    have hl : lt d[f]! d[s - 1]! = false := by rcases h.lo with g | g | g <;> first | omega | exact g
    have g1 : lt d[y]! d[s - 1]! = false := by
      by_cases e1 : y = f
      · rw [e1]; exact hl
      · exact hS.ntrans _ _ _ (h.right _ _ (by omega) (by omega) hy2) hl
    by_cases e2 : x = s - 1
    · rw [e2]; exact g1
    · exact hS.ntrans _ _ _ g1 (h.left _ _ hx1 (by omega) (by omega))
  have high : ∀ x, m ≤ x → x < f → ∀ y, s ≤ y → y < m → lt d[y]! d[x]! = false := fun x hx1 hx2 y hy1 hy2 => by
    have hl : lt d[f - 1]! d[s]! = true := by rcases h.hi with g | g | g <;> first | omega | exact g
    have hl' := hS.asymmA hl
    have g1 : lt d[y]! d[f - 1]! = false := by
      by_cases e1 : y = s
      · rw [e1]; exact hl'
      · exact hS.ntrans _ _ _ (h.left _ _ (by omega) (by omega) hy2) hl'
    by_cases e2 : x = f - 1
    · rw [e2]; exact g1
    · exact hS.ntrans _ _ _ g1 (h.right _ _ hx1 (by omega) (by omega))
  rw [h1, h1]
  by_cases p1 : p < s
  · rw [rC0 s m f p p1]
    by_cases q1 : q < f
    · rw [rC2 s m f q (by omega) q1]; exact h.left _ _ hp (by omega) (by omega)
    · rw [rC3 s m f q h.sm h.mf (by omega)]; exact low p hp p1 q (by omega) hqe
  · rw [rC1 s m f p (by omega) (by omega)]
    by_cases q1 : q < f
    · rw [rC2 s m f q (by omega) q1]; exact high _ (by omega) (by omega) _ (by omega) (by omega)
    · rw [rC3 s m f q h.sm h.mf (by omega)]; exact h.right _ _ (by omega) (by omega) hqe

/-- The lower half, where nothing is left to do. -/
theorem Cut.lower (h : Cut lt d a m e mid s f) (h1 : ∀ t, d1[t]! = d[rotI s m f t]!) (hd : s = a ∨ s = mid) : SortedIn lt a mid d1 := by
  rcases hd with hd | hd
  · have := h.p2 h1; rwa [hd] at this
  · have := h.p1 h1; rwa [hd] at this
theorem Cut.upper (h : Cut lt d a m e mid s f) (h1 : ∀ t, d1[t]! = d[rotI s m f t]!) (hd : f = mid ∨ f = e) : SortedIn lt mid e d1 := by
  rcases hd with hd | hd
  · have := h.p4 h1; rwa [hd] at this
  · have := h.p3 h1; rwa [hd] at this

theorem finish (hS : SWO lt) (h : Cut lt d a m e mid s f) (h1 : ∀ t, d1[t]! = d[rotI s m f t]!) (ham : a ≤ mid) (hme : mid ≤ e) (he : e ≤ d.size) (P1 : PermIn a e d d1)
    (P2 : PermIn a mid d1 d2) (s2 : SortedIn lt a mid d2) (P3 : PermIn mid e d2 d3) (s3 : SortedIn lt mid e d3) : PermIn a e d d3 ∧ SortedIn lt a e d3 := by
  have z1 : d1.size = d.size := P1.1
  have z2 : d2.size = d1.size := P2.1
  refine ⟨permIn_trans _ _ _ _ _ P1 (permIn_trans _ _ _ _ _ (permIn_mono _ _ _ _ _ _ (Nat.le_refl _) hme (by omega) P2) (permIn_mono _ _ _ _ _ _ ham (Nat.le_refl _) (by omega) P3)), ?_⟩
  have c1 : ∀ p, a ≤ p → p < mid → ∀ q, mid ≤ q → q < e → lt d2[q]! d2[p]! = false := fun p hp1 hp2 q hq1 hq2 => by
    have := permIn_all d1 d2 a mid (fun x => lt d1[q]! x = false) (by omega) P2 (fun t ht1 ht2 => h.cross hS h1 t q ht1 ht2 hq1 hq2) p hp1 hp2
    rw [P2.2.1 q (Or.inr hq1)]; exact this
  have c2 : ∀ p, a ≤ p → p < mid → ∀ q, mid ≤ q → q < e → lt d3[q]! d3[p]! = false := fun p hp1 hp2 q hq1 hq2 => by
    have := permIn_all d2 d3 mid e (fun y => lt y d2[p]! = false) (by omega) P3 (fun t ht1 ht2 => c1 p hp1 hp2 t ht1 ht2) q hq1 hq2
    rw [P3.2.1 p (Or.inl hp2)]; exact this
  intro p q hp hpq hq
  by_cases e1 : q < mid
  · rw [P3.2.1 p (Or.inl (by omega)), P3.2.1 q (Or.inl e1)]; exact s2 p q hp hpq e1
  · by_cases e2 : p < mid
    · exact c2 p hp e2 q (by omega) hq
    · exact s3 p q (by omega) hpq hq
end

theorem Merges.at_ {F : Nat} {b cap len a m e : Nat} {d : Array Mt} {w : World} (h : Merges F lt b cap a m e d w) (hs : d.size = len) (va vm ve : Int) (ea : va = (a : Int)) (em : vm = (m : Int)) (ee : ve = (e : Int)) :
    Calls Yba.prog 23 #[.slice (some ⟨b, 0, none⟩) len cap, .int .i64 va, .int .i64 vm, .int .i64 ve, .func (.func F) #[] #[]] w fun x w' => x = .returned (.tuple #[]) ∧ ∃ d', PermIn a e d d' ∧ SortedIn lt a e d' ∧ RowM b d' w' ∧ w.grownBy w' (some b) := by
  subst hs; subst ea; subst em; subst ee; exact h
theorem rotate' {F : Nat} (b cap len a m e : Nat) (va vm ve : Int) (d : Array Mt) (w : World) (hs : d.size = len) (ea : va = (a : Int)) (em : vm = (m : Int)) (ee : ve = (e : Int)) (hR : RowM b d w) (ham : a < m) (hme : m < e) (he : e ≤ len) (hsz : len ≤ 2048) :
    Calls Yba.prog 34 #[.slice (some ⟨b, 0, none⟩) len cap, .int .i64 va, .int .i64 vm, .int .i64 ve, .func (.func F) #[] #[]] w fun x w' => x = .returned (.tuple #[]) ∧ ∃ d', PermIn a e d d' ∧ (∀ t, d'[t]! = d[rotI a m e t]!) ∧ RowM b d' w' ∧ w.grownBy w' (some b) := by
  subst hs; subst ea; subst em; subst ee; exact rotate b cap a m e d w hR ham hme he hsz
end Go.Proofs.Ybulkchng
