/-
  The law's row of four flags 'had', and what the loops over it say.
-/
import Derived.Test.YbulkchmsSteps
namespace Go.Proofs.Ybulkchms
open Go.RowKit

/-- The row of flags in block Hb holds c. -/
structure Flags (Hb : Nat) (c : Nat → Bool) (W : World) : Prop where
  cell : ∀ j, j < 4 → W.cell? ⟨Hb, j, none⟩ = some (.bool (c j))
  frozen : ∀ j, W.frozen? ⟨Hb, j, none⟩ = false

theorem Flags.lt {Hb : Nat} {c : Nat → Bool} {W : World} (h : Flags Hb c W) : Hb < W.heap.size := World.block_lt_of_cell? W _ (h.cell 0 (by omega))
theorem Flags.block {Hb : Nat} {c : Nat → Bool} {W : World} (h : Flags Hb c W) : ∃ cs ty fz, W.heap[Hb]? = some (.cells cs ty fz) := by
  have := h.cell 0 (by omega)
  unfold World.cell? at this
  split at this
  · rename_i c0 e0 f0 hb; exact ⟨c0, e0, f0, hb⟩
  · cases this
theorem Flags.grown {Hb : Nat} {c : Nat → Bool} {W W' : World} {row : Option Nat} (h : Flags Hb c W) (hg : W.grownBy W' row) (hr : row ≠ some Hb) : Flags Hb c W' :=
  ⟨fun j hj => hg.cell (h.cell j hj) (fun e => hr e.symm), fun j => (World.frozen?_of_block (hg.block Hb h.lt (fun e => hr e.symm))).trans (h.frozen j)⟩
/-- c with b at g. -/
def setF (c : Nat → Bool) (g : Nat) (b : Bool) : Nat → Bool := fun j => if j = g then b else c j
theorem Flags.set {Hb : Nat} {c : Nat → Bool} {W : World} (h : Flags Hb c W) (g : Nat) (hg : g < 4) (b : Bool) : Flags Hb (setF c g b) (W.setCell ⟨Hb, g, none⟩ (.bool b)) := by
  unfold setF
  refine ⟨fun j hj => ?_, fun j => by rw [World.frozen?_setCell]; exact h.frozen j⟩
  by_cases e : j = g
  · subst e; rw [if_pos rfl]; exact World.cell?_setCell_same W _ _ (h.cell _ hg)
  · rw [if_neg e, World.cell?_setCell_other W _ _ _ (fun e' => e (congrArg Addr.off e').symm)]; exact h.cell j hj
theorem Flags.congr {Hb : Nat} {c c' : Nat → Bool} {W : World} (h : Flags Hb c W) (e : ∀ j, j < 4 → c j = c' j) : Flags Hb c' W := ⟨fun j hj => by rw [← e j hj]; exact h.cell j hj, h.frozen⟩
theorem Flags.start (W : World) : Flags W.heap.size (fun _ => false) (W.alloc (.cells #[.bool false, .bool false, .bool false, .bool false] 52)) :=
  ⟨fun j hj => by
    rw [World.cell?_alloc_new]
    match j, hj with
    | 0, _ => rfl
    | 1, _ => rfl
    | 2, _ => rfl
    | 3, _ => rfl, fun j => frozen_of_row _ _ j _ 52 (heap_alloc_new W _)⟩

section
variable {ops : Array Oper} {rest : List Oper} {o : Oper} {a : Act} {Q : Exit → Act → World → Prop} {W : World}
theorem at_setH (hg : o.guard = none) (x y : Operand) (hop : o.op = Op.store 4 x y) (Hb g : Nat) (b : Bool) (c : Nat → Bool)
    (hx : a.eval x = .pointer (some ⟨Hb, g, none⟩)) (hy : a.eval y = .bool b) (h : Flags Hb c W) (h4 : g < 4)
    (hK : ∀ W', W.grownBy W' (some Hb) → W'.heap.size = W.heap.size → Flags Hb (setF c g b) W' → wpList Yba.prog ops Q rest (a.put o.dst undef) W') : wpList Yba.prog ops Q (o :: rest) a W := by
  refine wpList_plain hg fun K hK' => ?_
  have hc := h.cell g h4
  have hf := h.frozen g
  have := hK' _ _ (hK _ (grown_setCell W ⟨Hb, g, none⟩ (.bool b)) (by simp [World.setCell]) (h.set g h4 b))
  unfold Oper.wp execOp
  simp only [hop, hx, hy]
  simp [go_sem, hc, hf]
  exact this
end

/-- Does grantee g have a grant among the first m grantors? -/
def hadTo (pr : Nat → Nat → Bool) (g m : Nat) : Bool := (List.range m).any (pr g)
def had (pr : Nat → Nat → Bool) (g : Nat) : Bool := hadTo pr g 4
/-- How many of the first k grantees have one? -/
def cntTo (c : Nat → Bool) (k : Nat) : Nat := ((List.range k).filter c).length

theorem hadTo_zero (pr : Nat → Nat → Bool) (g : Nat) : hadTo pr g 0 = false := rfl
theorem hadTo_succ (pr : Nat → Nat → Bool) (g m : Nat) : hadTo pr g (m + 1) = (hadTo pr g m || pr g m) := by simp [hadTo, List.range_succ]
theorem had_iff (pr : Nat → Nat → Bool) (g : Nat) : had pr g = true ↔ ∃ r, r < 4 ∧ pr g r = true := by simp [had, hadTo]
theorem cntTo_succ (c : Nat → Bool) (k : Nat) : cntTo c (k + 1) = cntTo c k + if c k then 1 else 0 := by
  unfold cntTo; rw [List.range_succ, List.filter_append]
  cases h : c k <;> simp [h]
theorem cntTo_le (c : Nat → Bool) (k : Nat) : cntTo c k ≤ k := by unfold cntTo; exact Nat.le_trans (List.length_filter_le _ _) (by simp)
theorem count_cnt {f : Nat → Option Value} {c : Nat → Bool} (h : ∀ i, i < 4 → (f i).isSome = c i) : count f = cntTo c 4 := by
  unfold count cntTo
  congr 1
  exact List.filter_congr fun i hi => h i (by simpa using hi)

/-- The flags while the loops go: the first k grantees are done, and of grantee k the first m grantors. -/
def flagsAt (pr : Nat → Nat → Bool) (k m j : Nat) : Bool := if j < k then had pr j else if j = k then hadTo pr k m else false
theorem flagsAt_zero (pr : Nat → Nat → Bool) (j : Nat) : flagsAt pr 0 0 j = false := by unfold flagsAt; rw [if_neg (by omega), hadTo_zero]; split <;> rfl
theorem flagsAt_next (pr : Nat → Nat → Bool) (k j : Nat) : flagsAt pr k 4 j = flagsAt pr (k + 1) 0 j := by
  unfold flagsAt
  by_cases h1 : j < k
  · rw [if_pos h1, if_pos (by omega)]
  · by_cases h2 : j = k
    · rw [if_neg h1, if_pos h2, if_pos (by omega), h2]; rfl
    · rw [if_neg h1, if_neg h2, if_neg (by omega)]
      split
      · rw [hadTo_zero]
      · rfl
theorem flagsAt_yes (pr : Nat → Nat → Bool) (k m j : Nat) (h : pr k m = true) : setF (flagsAt pr k m) k true j = flagsAt pr k (m + 1) j := by
  unfold setF flagsAt
  by_cases e : j = k
  · subst e; simp [hadTo_succ, h]
  · rw [if_neg e, if_neg e, if_neg e]
theorem flagsAt_no (pr : Nat → Nat → Bool) (k m j : Nat) (h : pr k m = false) : flagsAt pr k m j = flagsAt pr k (m + 1) j := by
  unfold flagsAt
  by_cases e : j = k
  · subst e; simp [hadTo_succ, h]
  · rw [if_neg e, if_neg e]
theorem flagsAt_end (pr : Nat → Nat → Bool) (j : Nat) (hj : j < 4) : flagsAt pr 4 0 j = had pr j := by unfold flagsAt; rw [if_pos hj]
end Go.Proofs.Ybulkchms
