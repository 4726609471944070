/-
  The collector's memory; worse, threshold, beats, count.
-/
import Derived.Test.YbulkchngRow
import Derived.Test.YbulkchngTop
import Derived.Deep.AppendLies
namespace Go.Proofs.Ybulkchng
open Go.RowKit Go.Sort
attribute [local go_sem] run_store_float

/-- The cells of a list of matches. -/
def flat : List Mt → List Value
  | [] => []
  | m :: l => .int .i64 m.1 :: .float .f64 (fl m.2) :: flat l
theorem flat_length : ∀ l, (flat l).length = l.length * 2
  | [] => rfl
  | m :: l => by simp [flat, flat_length l]; omega
theorem flat_append : ∀ l k, flat (l ++ k) = flat l ++ flat k
  | [], k => rfl
  | m :: l, k => by simp [flat, flat_append l k]
theorem flat_get0 : ∀ (l : List Mt) (t : Nat) (m : Mt), l[t]? = some m → (flat l)[t * 2]? = some (.int .i64 m.1)
  | [], t, m, h => by simp at h
  | x :: l, 0, m, h => by simp at h; subst h; rfl
  | x :: l, t + 1, m, h => by
    have := flat_get0 l t m (by simpa using h)
    rw [show (t + 1) * 2 = t * 2 + 1 + 1 by omega]
    simpa [flat] using this
theorem flat_get1 : ∀ (l : List Mt) (t : Nat) (m : Mt), l[t]? = some m → (flat l)[t * 2 + 1]? = some (.float .f64 (fl m.2))
  | [], t, m, h => by simp at h
  | x :: l, 0, m, h => by simp at h; subst h; rfl
  | x :: l, t + 1, m, h => by
    have := flat_get1 l t m (by simpa using h)
    rw [show (t + 1) * 2 + 1 = t * 2 + 1 + 1 + 1 by omega]
    simpa [flat] using this
theorem flat_one : ∀ (l : List Mt), ∀ u ∈ flat l, u.oneCell' = true
  | [], u, h => by simp [flat] at h
  | m :: l, u, h => by
    simp [flat] at h
    rcases h with rfl | rfl | h
    · rfl
    · rfl
    · exact flat_one l u h

/-- v is a slice of matches h that the call owns. -/
def OwnM (B : Nat) (v : Value) (h : Array Mt) (w : World) : Prop := w.ownsRow B 40 2 v h.size (flat h.toList)

theorem get_opt (h : Array Mt) (t : Nat) (ht : t < h.size) : h.toList[t]? = some h[t]! := by
  rw [getElem!_pos h t ht]; simp [ht]

theorem OwnM.row {B : Nat} {v : Value} {h : Array Mt} {w : World} (o : OwnM B v h w) (h0 : 0 < h.size) : ∃ g cap, v = .slice (some ⟨g, 0, none⟩) h.size cap ∧ B ≤ g ∧ h.size ≤ cap ∧ RowM g h w := by
  rcases o.2 with ⟨_, h1⟩ | ⟨g, cap, cur, hv, hb, hg, hn, _, hs, ht⟩
  · omega
  · have key : ∀ j u, (flat h.toList)[j]? = some u → w.cell? ⟨g, j, none⟩ = some u := fun j u hu => by
      rw [cell_of_row _ _ j _ 40 (0, 0) hg]
      rw [← ht, List.getElem?_take] at hu
      split at hu
      · simpa using hu
      · cases hu
    refine ⟨g, cap, hv, hb, hn, fun t h1 => key _ _ (flat_get0 _ _ _ (get_opt h t h1)), fun t h1 => key _ _ (flat_get1 _ _ _ (get_opt h t h1)), fun i => frozen_of_row _ _ i _ 40 hg, ?_⟩
    exact (Array.getElem?_eq_some_iff.1 hg).1

/-- The slack. -/
def slack : Nat := 4427038433705197568

structure Coll (cb limit : Nat) (v : Value) (h : Array Mt) (total B : Nat) (w : World) : Prop where
  c0 : w.cell? ⟨cb, 0, none⟩ = some (.int .i64 limit)
  c1 : w.cell? ⟨cb, 1, none⟩ = some v
  c2 : w.cell? ⟨cb, 2, none⟩ = some (.int .i64 total)
  c3 : w.cell? ⟨cb, 3, none⟩ = some (.bool false)
  c4 : w.cell? ⟨cb, 4, none⟩ = some (.bool false)
  c5 : w.cell? ⟨cb, 5, none⟩ = some (.float .f64 4427038433705197568)
  fz : ∀ i, w.frozen? ⟨cb, i, none⟩ = false
  own : OwnM B v h w
  far : cb < B
  base : B ≤ w.heap.size

theorem OwnM.far {B cb : Nat} {v : Value} {h : Array Mt} {w : World} (o : OwnM B v h w) (hc : cb < B) : v.ownBlock ≠ some cb := fun e => by
  have := World.ownsRow.lt o cb e
  omega

theorem Coll.kept {cb limit : Nat} {v : Value} {h : Array Mt} {total B : Nat} {w w' : World} {row : Option Nat} (c : Coll cb limit v h total B w) (hg : w.grownBy w' row) (h1 : row ≠ some cb) (h2 : ∀ k, row = some k → k < B) : Coll cb limit v h total B w' := by
  have hl := World.block_lt_of_cell? w _ c.c0
  refine ⟨hg.cell c.c0 (fun e => h1 e.symm), hg.cell c.c1 (fun e => h1 e.symm), hg.cell c.c2 (fun e => h1 e.symm), hg.cell c.c3 (fun e => h1 e.symm), hg.cell c.c4 (fun e => h1 e.symm), hg.cell c.c5 (fun e => h1 e.symm),
    fun i => (World.frozen?_of_block (hg.block cb hl (fun e => h1 e.symm))).trans (c.fz i), World.ownsRow.kept c.own hg ?_, c.far, Nat.le_trans c.base hg.size⟩
  by_cases e : v.ownBlock = none
  · exact Or.inl e
  · refine Or.inr fun e' => ?_
    obtain ⟨k, hk⟩ := Option.ne_none_iff_exists'.1 e
    have l1 := World.ownsRow.lt c.own k hk
    have l2 := h2 k (by rw [← e', hk])
    omega

/-! ### The small functions -/
set_option maxRecDepth 100000 in
theorem worse_any (x y : Mt) (w : World) (hx : x.2 < 1024) (hy : y.2 < 1024) : Calls Yba.prog 38 #[ev x, ev y] w fun e w' => e = .returned (.bool (worse x y)) ∧ w.grownBy w' none := by
  unfold ev
  have l := lss_fl x.2 y.2 (by omega) (by omega)
  have q := eql_fl x.2 y.2 (by omega) (by omega)
  have HG : Hid (w.grownBy ((w.alloc (.cells #[.int .i64 x.1, .float .f64 (fl x.2)] 40)).alloc (.cells #[.int .i64 y.1, .float .f64 (fl y.2)] 40)) none) := (World.grownBy_alloc _ _ none).trans (World.grownBy_alloc _ _ none)
  by_cases h1 : x.2 < y.2
  · have l' : (FloatKind.f64.format.order (fl x.2) (fl y.2) == some .lt) = true := by rw [l]; simp [h1]
    have HR : Hid (worse x y = true) := show worse x y = true by unfold worse ltTop; simp [h1]
    clear l q h1
    go_enter Yba.func38, Yba.ntmps38
    go_wp2
    go_ret
    exact ⟨by rw [HR.out]; rfl, HG.out⟩
  · have l' : (FloatKind.f64.format.order (fl x.2) (fl y.2) == some .lt) = false := by rw [l]; simp; omega
    by_cases h2 : x.2 = y.2
    · have q' : (FloatKind.f64.format.order (fl x.2) (fl y.2) == some .eq) = true := by rw [q]; simp [h2]
      have HR : Hid (worse x y = decide (y.1 < x.1)) := show worse x y = decide (y.1 < x.1) by unfold worse ltTop; simp [h2]
      clear l q h1 h2
      go_enter Yba.func38, Yba.ntmps38
      go_wp2
      go_ret
      exact ⟨by rw [HR.out]; rfl, HG.out⟩
    · have q' : (FloatKind.f64.format.order (fl x.2) (fl y.2) == some .eq) = false := by rw [q]; simp [h2]
      have HR : Hid (worse x y = false) := show worse x y = false by unfold worse ltTop; simp; omega
      clear l q h1 h2
      go_enter Yba.func38, Yba.ntmps38
      go_wp2
      go_ret
      exact ⟨by rw [HR.out]; rfl, HG.out⟩
end Go.Proofs.Ybulkchng
