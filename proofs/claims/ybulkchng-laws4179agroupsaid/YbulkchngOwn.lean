/-
  The heap's own row, written and grown.
-/
import Derived.Test.YbulkchngThr
namespace Go.Proofs.Ybulkchng
open Go.RowKit Go.Sort

theorem flat_set : ∀ (l : List Mt) (i : Nat) (m : Mt), flat (l.set i m) = ((flat l).set (i * 2) (.int .i64 m.1)).set (i * 2 + 1) (.float .f64 (fl m.2))
  | [], i, m => by simp [flat]
  | x :: l, 0, m => by simp [flat]
  | x :: l, i + 1, m => by
    have := flat_set l i m
    simp only [List.set_cons_succ, flat, this, show (i + 1) * 2 = i * 2 + 1 + 1 by omega]

theorem OwnM.put {B g cap : Nat} {h : Array Mt} {w : World} (o : OwnM B (.slice (some ⟨g, 0, none⟩) h.size cap) h w) (i : Nat) (m : Mt) : OwnM B (.slice (some ⟨g, 0, none⟩) h.size cap) (h.setIfInBounds i m) (putM w g i m) := by
  unfold OwnM at o ⊢
  rcases o.2 with ⟨h1, _⟩ | ⟨g', cap', cur, hv, hb, hg, hn, hm, hs, ht⟩
  · simp at h1
  · simp only [Value.slice.injEq, Option.some.injEq, Addr.mk.injEq, and_true, true_and] at hv
    obtain ⟨rfl, rfl⟩ := hv
    refine ⟨by rw [flat_length]; simp, Or.inr ⟨g, cap, (cur.setIfInBounds (i * 2) (.int .i64 m.1)).setIfInBounds (i * 2 + 1) (.float .f64 (fl m.2)), by simp, hb, ?_, by simpa using hn, hm, by simpa using hs, ?_⟩⟩
    · unfold putM
      exact heap_setCell_same _ _ _ _ _ _ (heap_setCell_same _ _ _ _ _ _ hg)
    · simp only [Array.toList_setIfInBounds, Array.size_setIfInBounds, List.take_set, ht, flat_set]

theorem Coll.put {cb limit : Nat} {g cap : Nat} {h : Array Mt} {total B : Nat} {w : World} (c : Coll cb limit (.slice (some ⟨g, 0, none⟩) h.size cap) h total B w) (i : Nat) (m : Mt) : Coll cb limit (.slice (some ⟨g, 0, none⟩) h.size cap) (h.setIfInBounds i m) total B (putM w g i m) := by
  have hf := OwnM.far c.own c.far
  have hne : ¬ g = cb := fun e => hf (by rw [← e]; rfl)
  have hg := grown_putM w g i m
  have hl := World.block_lt_of_cell? w _ c.c0
  have hr : ∀ o, some (⟨cb, o, none⟩ : Addr).block ≠ some g := fun o e => hne (Option.some.inj e).symm
  exact ⟨hg.cell c.c0 (hr 0), hg.cell c.c1 (hr 1), hg.cell c.c2 (hr 2), hg.cell c.c3 (hr 3), hg.cell c.c4 (hr 4), hg.cell c.c5 (hr 5), fun j => (World.frozen?_of_block (hg.block cb hl (hr 0))).trans (c.fz j), c.own.put i m, c.far, Nat.le_trans c.base hg.size⟩

theorem Coll.swap {cb limit : Nat} {g cap : Nat} {h : Array Mt} {total B : Nat} {w : World} (c : Coll cb limit (.slice (some ⟨g, 0, none⟩) h.size cap) h total B w) (i j : Nat) : Coll cb limit (.slice (some ⟨g, 0, none⟩) h.size cap) (swp h i j) total B (putM (putM w g i h[j]!) g j h[i]!) := by
  have h1 := c.put i h[j]!
  have e : (h.setIfInBounds i h[j]!).size = h.size := by simp
  rw [← e] at h1
  have h2 := h1.put j h[i]!
  rw [e] at h2
  exact h2

/-- The slice is grown by one and laid into the collector. -/
theorem Coll.appended {cb limit : Nat} {v : Value} {h : Array Mt} {total B : Nat} {W1 W w2 : World} {gg cap2 : Nat} {m : Mt} (c : Coll cb limit v h total B W1) (hg0 : W1.grownBy W none) (hg : W.grownBy w2 v.ownBlock)
    (ho : w2.ownsRow B 40 2 (.slice (some ⟨gg, 0, none⟩) (h.size + 1) cap2) (h.size + 1) (flat h.toList ++ [.int .i64 m.1, .float .f64 (fl m.2)])) :
    Coll cb limit (.slice (some ⟨gg, 0, none⟩) (h.push m).size cap2) (h.push m) total B (w2.setCell ⟨cb, 1, none⟩ (.slice (some ⟨gg, 0, none⟩) (h.push m).size cap2)) := by
  have hf : ∀ o, some (⟨cb, o, none⟩ : Addr).block ≠ v.ownBlock := fun o e => OwnM.far c.own c.far e.symm
  have cell : ∀ o x, W1.cell? ⟨cb, o, none⟩ = some x → w2.cell? ⟨cb, o, none⟩ = some x := fun o x hx => hg.cell (hg0.cell hx (by simp)) (hf o)
  have l1 := World.block_lt_of_cell? W1 _ c.c0
  have fz : ∀ i, w2.frozen? ⟨cb, i, none⟩ = false := fun i => ((World.frozen?_of_block (hg.block cb (Nat.lt_of_lt_of_le l1 hg0.size) (hf 0))).trans (World.frozen?_of_block (hg0.block cb l1 (by simp)))).trans (c.fz i)
  have other : ∀ o x, o ≠ 1 → W1.cell? ⟨cb, o, none⟩ = some x → (w2.setCell ⟨cb, 1, none⟩ (.slice (some ⟨gg, 0, none⟩) (h.push m).size cap2)).cell? ⟨cb, o, none⟩ = some x := fun o x ho1 hx => by
    rw [World.cell?_setCell_other _ _ _ _ (fun e => ho1 (congrArg Addr.off e).symm)]; exact cell o x hx
  refine ⟨other 0 _ (by omega) c.c0, World.cell?_setCell_same _ _ _ (cell 1 _ c.c1), other 2 _ (by omega) c.c2, other 3 _ (by omega) c.c3, other 4 _ (by omega) c.c4, other 5 _ (by omega) c.c5, fun i => by rw [World.frozen?_setCell]; exact fz i, ?_, c.far, ?_⟩
  · unfold OwnM
    have e1 : flat (h.push m).toList = flat h.toList ++ [.int .i64 m.1, .float .f64 (fl m.2)] := by rw [Array.toList_push, flat_append]; rfl
    have e2 : (h.push m).size = h.size + 1 := by simp
    rw [e1, e2]
    refine World.ownsRow.kept ho (grown_setCell w2 ⟨cb, 1, none⟩ _) (Or.inr fun e => ?_)
    have := World.ownsRow.lt ho cb e
    have := c.far
    omega
  · simp only [World.size_setCell]; exact Nat.le_trans c.base (Nat.le_trans hg0.size hg.size)
end Go.Proofs.Ybulkchng
