/-
  The heap of the best matches: the plain law.
-/
import Derived.Test.YbulkchngCmp
import Derived.Sort.LotA
namespace Go.Proofs.Ybulkchng
open Go.Sort

theorem swoTop : SWO ltTop where
  irrefl x := by simp [ltTop]
  trans x y z h1 h2 := by simp [ltTop] at *; omega
  ntrans x y z h1 h2 := by simp [ltTop] at *; omega
theorem swoDoc : SWO ltDoc where
  irrefl x := by simp [ltDoc]
  trans x y z h1 h2 := by simp [ltDoc] at *; omega
  ntrans x y z h1 h2 := by simp [ltDoc] at *; omega

/-- Match x ranks below match y. -/
def worse (x y : Mt) : Bool := ltTop y x
theorem worse_asymm {x y : Mt} (h : worse x y = true) : worse y x = false := swoTop.asymmA h
theorem worse_ntrans {x y z : Mt} (h1 : worse x y = false) (h2 : worse y z = false) : worse x z = false := swoTop.ntrans _ _ _ h2 h1

def HeapOk (h : Array Mt) : Prop := ∀ i, 0 < i → i < h.size → worse h[i]! h[(i - 1) / 2]! = false

theorem HeapOk.root {h : Array Mt} (hh : HeapOk h) : ∀ i, i < h.size → worse h[i]! h[0]! = false := by
  intro i
  induction i using Nat.strongRecOn with
  | ind i ih =>
    intro hi
    by_cases h0 : i = 0
    · subst h0; exact swoTop.irrefl _
    · exact worse_ntrans (hh i (by omega) hi) (ih ((i - 1) / 2) (by omega) (by omega))

/-- All is well but at j, which may rank below its parent. -/
structure UpOk (h : Array Mt) (j : Nat) : Prop where
  rest : ∀ i, 0 < i → i < h.size → i ≠ j → worse h[i]! h[(i - 1) / 2]! = false
  kids : ∀ i, 0 < i → i < h.size → (i - 1) / 2 = j → 0 < j → worse h[i]! h[(j - 1) / 2]! = false

theorem UpOk.stop {h : Array Mt} {j : Nat} (u : UpOk h j) (hs : j = 0 ∨ worse h[j]! h[(j - 1) / 2]! = false) : HeapOk h := fun i h0 hi => by
  by_cases e : i = j
  · subst e; rcases hs with hs | hs
    · omega
    · exact hs
  · exact u.rest i h0 hi e

theorem UpOk.step {h : Array Mt} {j : Nat} (u : UpOk h j) (hj : 0 < j) (hjs : j < h.size) (hw : worse h[j]! h[(j - 1) / 2]! = true) : UpOk (swp h j ((j - 1) / 2)) ((j - 1) / 2) := by
  have hp : (j - 1) / 2 < h.size := by omega
  have g := fun k => swp_get h hjs hp k
  have hsz : (swp h j ((j - 1) / 2)).size = h.size := swp_size h j ((j - 1) / 2)
  have hne : (j - 1) / 2 ≠ j := by omega
  refine ⟨fun i h0 hi he => ?_, fun i h0 hi he hpp => ?_⟩
  · rw [hsz] at hi
    rw [g, g]
    by_cases c1 : i = j
    · subst c1
      rw [if_neg (by omega), if_pos rfl, if_pos rfl]
      exact worse_asymm hw
    · rw [if_neg he, if_neg c1]
      by_cases c2 : (i - 1) / 2 = (j - 1) / 2
      · rw [if_pos c2]
        have h1 := u.rest i h0 hi c1
        rw [c2] at h1
        exact worse_ntrans h1 (worse_asymm hw)
      · rw [if_neg c2]
        by_cases c3 : (i - 1) / 2 = j
        · rw [if_pos c3]; exact u.kids i h0 hi c3 hj
        · rw [if_neg c3]; exact u.rest i h0 hi c1
  · rw [hsz] at hi
    rw [g, g, if_neg (by omega), if_neg (show ¬ ((j - 1) / 2 - 1) / 2 = (j - 1) / 2 by omega), if_neg (show ¬ ((j - 1) / 2 - 1) / 2 = j by omega)]
    have hpar : worse h[(j - 1) / 2]! h[((j - 1) / 2 - 1) / 2]! = false := u.rest _ hpp hp hne
    by_cases c1 : i = j
    · rw [if_pos c1]; exact hpar
    · rw [if_neg c1]
      have h1 := u.rest i h0 hi c1
      rw [he] at h1
      exact worse_ntrans h1 hpar

/-- All is well but that the children of j may rank below it. -/
structure DownOk (h : Array Mt) (j : Nat) : Prop where
  rest : ∀ i, 0 < i → i < h.size → (i - 1) / 2 ≠ j → worse h[i]! h[(i - 1) / 2]! = false
  kids : ∀ i, 0 < i → i < h.size → (i - 1) / 2 = j → 0 < j → worse h[i]! h[(j - 1) / 2]! = false

theorem DownOk.stop {h : Array Mt} {j : Nat} (u : DownOk h j) (hs : ∀ i, 0 < i → i < h.size → (i - 1) / 2 = j → worse h[i]! h[j]! = false) : HeapOk h := fun i h0 hi => by
  by_cases e : (i - 1) / 2 = j
  · rw [e]; exact hs i h0 hi e
  · exact u.rest i h0 hi e

theorem DownOk.step {h : Array Mt} {j c : Nat} (u : DownOk h j) (hc0 : 0 < c) (hc : c < h.size) (hcj : (c - 1) / 2 = j) (hw : worse h[c]! h[j]! = true) (hleast : ∀ i, 0 < i → i < h.size → (i - 1) / 2 = j → worse h[i]! h[c]! = false) : DownOk (swp h j c) c := by
  have hj : j < h.size := by omega
  have g := fun k => swp_get h hj hc k
  have hsz : (swp h j c).size = h.size := swp_size h j c
  refine ⟨fun i h0 hi he => ?_, fun i h0 hi he hpp => ?_⟩
  · rw [hsz] at hi
    rw [g, g, if_neg (show ¬ (i - 1) / 2 = c from he)]
    by_cases c1 : i = c
    · subst c1
      rw [if_pos rfl, if_pos hcj]
      exact worse_asymm hw
    · rw [if_neg c1]
      by_cases c2 : i = j
      · subst c2
        rw [if_pos rfl, if_neg (by omega)]
        exact u.kids c hc0 hc hcj h0
      · rw [if_neg c2]
        by_cases c3 : (i - 1) / 2 = j
        · rw [if_pos c3]; exact hleast i h0 hi c3
        · rw [if_neg c3]; exact u.rest i h0 hi c3
  · rw [hsz] at hi
    rw [g, g, if_neg (by omega), if_neg (by omega), if_neg (by omega), if_pos hcj]
    have h1 := u.rest i h0 hi (by omega)
    rwa [he] at h1

/-! ### What is kept -/
/-- h holds the best 'limit' of the offered. -/
structure Kept (limit : Nat) (offered : List Mt) (h : Array Mt) : Prop where
  heap : HeapOk h
  best : ∃ rest, (h.toList ++ rest).Perm offered ∧ (∀ x ∈ h.toList, ∀ y ∈ rest, ltTop y x = false) ∧ (h.size < limit → rest = [])
  le : h.size ≤ limit

theorem Kept.start (limit : Nat) : Kept limit [] #[] := ⟨fun i h0 hi => by simp at hi, ⟨[], by simp, by simp, fun _ => rfl⟩, Nat.zero_le _⟩

theorem mem_get {h : Array Mt} {x : Mt} (hx : x ∈ h.toList) : ∃ i, i < h.size ∧ h[i]! = x := by
  obtain ⟨i, hi, e⟩ := List.mem_iff_getElem.1 hx
  refine ⟨i, by simpa using hi, ?_⟩
  rw [getElem!_pos h i (by simpa using hi)]
  simpa using e

/-- The heap grows. -/
theorem Kept.more {limit : Nat} {offered : List Mt} {h h' : Array Mt} {m : Mt} (k : Kept limit offered h) (hl : h.size < limit) (hp : h'.toList.Perm (h.toList ++ [m])) (hh : HeapOk h') : Kept limit (offered ++ [m]) h' := by
  obtain ⟨rest, h1, _, h3⟩ := k.best
  have hr := h3 hl
  subst hr
  have hs : h'.size = h.size + 1 := by have := hp.length_eq; simpa using this
  refine ⟨hh, ⟨[], ?_, by simp, fun _ => rfl⟩, by omega⟩
  rw [List.append_nil] at h1 ⊢
  exact hp.trans (h1.append_right _)
/-- The match is not kept. -/
theorem Kept.drop {limit : Nat} {offered : List Mt} {h : Array Mt} {m : Mt} (k : Kept limit offered h) (hl : ¬ h.size < limit) (hw : worse h[0]! m = false) : Kept limit (offered ++ [m]) h := by
  obtain ⟨rest, h1, h2, h3⟩ := k.best
  refine ⟨k.heap, ⟨rest ++ [m], ?_, fun x hx y hy => ?_, fun h => absurd h hl⟩, k.le⟩
  · rw [← List.append_assoc]; exact h1.append_right _
  · rcases List.mem_append.1 hy with hy | hy
    · exact h2 x hx y hy
    · have : y = m := by simpa using hy
      subst this
      obtain ⟨i, hi, rfl⟩ := mem_get hx
      exact swoTop.ntrans _ _ _ hw (k.heap.root i hi)
/-- The worst is dropped for the match. -/
theorem Kept.swap {limit : Nat} {offered : List Mt} {h h' : Array Mt} {m : Mt} (k : Kept limit offered h) (hl : ¬ h.size < limit) (h0 : 0 < h.size) (hw : worse h[0]! m = true) (hp : h'.toList.Perm ((h.setIfInBounds 0 m).toList)) (hh : HeapOk h') : Kept limit (offered ++ [m]) h' := by
  obtain ⟨rest, h1, h2, h3⟩ := k.best
  have hs : h'.size = h.size := by have := hp.length_eq; simpa using this
  obtain ⟨x0, l, hl0⟩ : ∃ x0 l, h.toList = x0 :: l := by
    cases hc : h.toList with
    | nil =>
      have hz : h.toList.length = 0 := by rw [hc]; rfl
      rw [Array.length_toList] at hz
      omega
    | cons x l => exact ⟨x, l, rfl⟩
  have hx0 : h[0]! = x0 := by
    rw [getElem!_pos h 0 h0]
    have : h.toList[0]? = some x0 := by rw [hl0]; rfl
    simpa [Array.getElem?_toList, h0] using this
  have hset : (h.setIfInBounds 0 m).toList = m :: l := by simp [hl0]
  rw [hset] at hp
  rw [hl0] at h1 h2
  rw [hx0] at hw
  refine ⟨hh, ⟨rest ++ [x0], ?_, fun x hx y hy => ?_, fun q => by omega⟩, by have := k.le; omega⟩
  · have e1 : (h'.toList ++ (rest ++ [x0])).Perm ((m :: l) ++ (rest ++ [x0])) := hp.append_right _
    have e2 : ((m :: l) ++ (rest ++ [x0])).Perm ((x0 :: l ++ rest) ++ [m]) := by
      have a1 : ((m :: l) ++ (rest ++ [x0])) = m :: ((l ++ rest) ++ [x0]) := by simp
      have a2 : ((x0 :: l ++ rest) ++ [m]) = x0 :: ((l ++ rest) ++ [m]) := by simp
      rw [a1, a2]
      have b1 : (m :: ((l ++ rest) ++ [x0])).Perm (m :: x0 :: (l ++ rest)) := (List.perm_append_comm (l₁ := l ++ rest) (l₂ := [x0])).cons m
      have b2 : (x0 :: ((l ++ rest) ++ [m])).Perm (x0 :: m :: (l ++ rest)) := (List.perm_append_comm (l₁ := l ++ rest) (l₂ := [m])).cons x0
      exact b1.trans ((List.Perm.swap x0 m _).trans b2.symm)
    exact (e1.trans e2).trans (h1.append_right _)
  · have hxm : x ∈ m :: l := hp.mem_iff.1 hx
    have hroot : ∀ z ∈ x0 :: l, ltTop x0 z = false := fun z hz => by
      have hz' : z ∈ h.toList := by rw [hl0]; exact hz
      obtain ⟨i, hi, rfl⟩ := mem_get hz'
      have := k.heap.root i hi
      rwa [hx0] at this
    rcases List.mem_cons.1 hxm with e | hx'
    · subst e
      rcases List.mem_append.1 hy with hy | hy
      · cases hyx : ltTop y x with
        | false => rfl
        | true =>
          have h5 := swoTop.trans _ _ _ hyx hw
          rw [h2 x0 (by simp) y hy] at h5
          cases h5
      · have : y = x0 := by simpa using hy
        subst this
        exact swoTop.asymmA hw
    · rcases List.mem_append.1 hy with hy | hy
      · exact h2 x (by simp [hx']) y hy
      · have : y = x0 := by simpa using hy
        subst this
        exact hroot x (by simp [hx'])
end Go.Proofs.Ybulkchng
