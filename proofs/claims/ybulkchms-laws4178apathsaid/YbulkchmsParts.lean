/-
  The plain side of LawS4178APath, and what its first loop builds.
-/
import Derived.Test.YbulkchmsPath
import Derived.Deep.OwnRows
import Derived.LaidEqlPtr
namespace Go.Proofs.Ybulkchms
open Go.RowKit

/-- What the first loop has built after k rounds. -/
structure Built (w : World) (n : Nat) (kd : Nat → Int) (nm : Nat → ByteArray) (k : Nat) (wr : World) : Prop where
  size : wr.heap.size = w.heap.size + 1 + k
  row : ∃ cs : Array Value, wr.heap[w.heap.size]? = some (.cells cs 25) ∧ cs.size = n ∧ ∀ j, j < k → cs[j]? = some (.pointer (some ⟨w.heap.size + 1 + j, 0, none⟩))
  objs : Objs w.heap.size k kd nm wr
  below : Below w.heap.size w wr

theorem Built.start (w : World) (n : Nat) (kd : Nat → Int) (nm : Nat → ByteArray) (cs : Array Value) (hn : cs.size = n) : Built w n kd nm 0 (w.alloc (.cells cs 25)) :=
  ⟨by simp, ⟨cs, heap_alloc_new w _, hn, fun j hj => by omega⟩, fun j hj => by omega, (Below.refl _ _).alloc (Nat.le_refl _) _⟩

/-- The cell into which round k stores. -/
theorem Built.slot {w : World} {n : Nat} {kd : Nat → Int} {nm : Nat → ByteArray} {k : Nat} {wr : World} (h : Built w n kd nm k wr) (hk : k < n) :
    (∃ x, wr.cell? ⟨w.heap.size, k, none⟩ = some x) ∧ wr.frozen? ⟨w.heap.size, k, none⟩ = false := by
  obtain ⟨cs, hc, hs, _⟩ := h.row
  refine ⟨⟨cs[k], ?_⟩, frozen_of_row wr _ k cs 25 hc⟩
  rw [cell_of_row wr _ k cs 25 (0, 0) hc]
  exact Array.getElem?_eq_getElem (by omega)

theorem Built.step {w : World} {n : Nat} {kd : Nat → Int} {nm : Nat → ByteArray} {k : Nat} {wr : World} (h : Built w n kd nm k wr) (hk : k < n) :
    Built w n kd nm (k + 1) ((wr.setCell ⟨w.heap.size, k, none⟩ (.pointer (some ⟨w.heap.size + 1 + k, 0, none⟩))).alloc (.cells (objC (kd k) (nm k) (par w.heap.size k)) 34)) := by
  obtain ⟨cs, hc, hs, hp⟩ := h.row
  have hz : (wr.setCell ⟨w.heap.size, k, none⟩ (.pointer (some ⟨w.heap.size + 1 + k, 0, none⟩))).heap.size = w.heap.size + 1 + k := by simp [World.setCell, h.size]
  refine ⟨by simp [hz]; omega, ⟨cs.setIfInBounds k (.pointer (some ⟨w.heap.size + 1 + k, 0, none⟩)), ?_, by simpa using hs, ?_⟩, ?_, ?_⟩
  · rw [Below.heap_alloc _ _ _ (by omega)]
    exact heap_setCell_same wr _ k cs 25 _ hc
  · intro j hj
    rw [Array.getElem?_setIfInBounds]
    by_cases e : k = j
    · subst e; rw [if_pos rfl, if_pos (by omega)]
    · rw [if_neg e]; exact hp j (by omega)
  · intro j hj
    by_cases e : j = k
    · subst e
      have := heap_alloc_new (wr.setCell ⟨w.heap.size, j, none⟩ (.pointer (some ⟨w.heap.size + 1 + j, 0, none⟩))) (.cells (objC (kd j) (nm j) (par w.heap.size j)) 34)
      rwa [hz] at this
    · rw [Below.heap_alloc _ _ _ (by omega), heap_setCell_other _ _ _ _ (by simp; omega)]
      exact h.objs j (by omega)
  · have := h.below.setCell (p := ⟨w.heap.size, k, none⟩) (Nat.le_refl _) (.pointer (some ⟨w.heap.size + 1 + k, 0, none⟩))
    exact this.alloc (by omega) _

theorem Built.step' {w : World} {n : Nat} {kd : Nat → Int} {nm : Nat → ByteArray} {k : Nat} {wr : World} (h : Built w n kd nm k wr) (hk : k < n) :
    Built w n kd nm (k + 1) ((wr.alloc (.cells (objC (kd k) (nm k) (par w.heap.size k)) 34)).setCell ⟨w.heap.size, k, none⟩ (.pointer (some ⟨w.heap.size + 1 + k, 0, none⟩))) := by
  rw [World.setCell_alloc_past _ _ _ _ (by have := h.size; omega)]; exact h.step hk
theorem par_succ (O k : Nat) : par O (k + 1) = some ⟨O + 1 + k, 0, none⟩ := by
  unfold par; rw [if_neg (by omega)]; congr 2; omega

/-- All n objects lie there, and the row leads to them: what the rest of the law reads. -/
structure Ready (w : World) (n : Nat) (kd : Nat → Int) (nm : Nat → ByteArray) (wr : World) : Prop where
  row : ∀ j, j < n → wr.cell? ⟨w.heap.size, j, none⟩ = some (.pointer (some ⟨w.heap.size + 1 + j, 0, none⟩))
  objs : Objs w.heap.size n kd nm wr
  below : Below w.heap.size w wr

theorem Built.ready {w : World} {n : Nat} {kd : Nat → Int} {nm : Nat → ByteArray} {wr : World} (h : Built w n kd nm n wr) : Ready w n kd nm wr := by
  obtain ⟨cs, hc, hs, hp⟩ := h.row
  exact ⟨fun j hj => by rw [cell_of_row wr _ j cs 25 (0, 0) hc, hp j hj], h.objs, h.below⟩
theorem Ready.later {w : World} {n : Nat} {kd : Nat → Int} {nm : Nat → ByteArray} {wr w' : World} (h : Ready w n kd nm wr) (hb : Below wr.heap.size wr w') : Ready w n kd nm w' :=
  ⟨fun j hj => (hb.cell (World.block_lt_of_cell? wr _ (h.row j hj))).trans (h.row j hj), h.objs.below hb, h.below.trans (hb.mono h.below.size)⟩
theorem Ready.kind {w : World} {n : Nat} {kd : Nat → Int} {nm : Nat → ByteArray} {wr : World} (h : Ready w n kd nm wr) (j : Nat) (hj : j < n) : wr.cell? ⟨w.heap.size + 1 + j, 0, none⟩ = some (.int .i64 (kd j)) := h.objs.cell j 0 hj
theorem Ready.name {w : World} {n : Nat} {kd : Nat → Int} {nm : Nat → ByteArray} {wr : World} (h : Ready w n kd nm wr) (j : Nat) (hj : j < n) : wr.cell? ⟨w.heap.size + 1 + j, 1, none⟩ = some (.string (nm j)) := h.objs.cell j 1 hj
theorem Ready.parent {w : World} {n : Nat} {kd : Nat → Int} {nm : Nat → ByteArray} {wr : World} (h : Ready w n kd nm wr) (j : Nat) (hj : j < n) : wr.cell? ⟨w.heap.size + 1 + j, 2, none⟩ = some (.pointer (par w.heap.size j)) := h.objs.cell j 2 hj

/-! ### Plain: where the path begins -/
/-- The place behind the last System among the first k. -/
def st (kd : Nat → Int) : Nat → Nat
  | 0 => 0
  | k + 1 => if kd k = 4 then k + 1 else st kd k
theorem st_le (kd : Nat → Int) (k : Nat) : st kd k ≤ k := by
  induction k with
  | zero => simp [st]
  | succ k ih => unfold st; split <;> omega
theorem st_eq (kd : Nat → Int) (k : Nat) : st kd (k + 1) = k + 1 ↔ kd k = 4 := by
  have := st_le kd k
  unfold st
  constructor
  · intro h; split at h
    · assumption
    · omega
  · intro h; rw [if_pos h]
theorem path_is (kd : Nat → Int) (nm : Nat → ByteArray) (i : Nat) : pathOf kd nm i = (List.range' (st kd (i + 1)) (i + 1 - st kd (i + 1))).map nm := by
  induction i with
  | zero => unfold pathOf; by_cases h : kd 0 = 4 <;> simp [st, h]
  | succ i ih =>
    have hl := st_le kd (i + 1)
    unfold pathOf
    by_cases h : kd (i + 1) = 4
    · simp [st, h]
    · have e : st kd (i + 1 + 1) = st kd (i + 1) := by rw [st, if_neg h]
      rw [if_neg h, ih, e, show i + 1 + 1 - st kd (i + 1) = (i + 1 - st kd (i + 1)) + 1 by omega, List.range'_concat]
      simp
      congr 1
      omega
theorem path_len (kd : Nat → Int) (nm : Nat → ByteArray) (i : Nat) : (pathOf kd nm i).length = i + 1 - st kd (i + 1) := by rw [path_is]; simp
theorem path_at (kd : Nat → Int) (nm : Nat → ByteArray) (i j : Nat) (hj : j < i + 1 - st kd (i + 1)) : (strV (pathOf kd nm i))[j]? = some (.string (nm (st kd (i + 1) + j))) := by
  rw [path_is]; simp [strV, hj]

/-! ### '!=' of a pointer with itself -/
theorem neq_ptr_same {P : Program} (w : World) {tp te : TypeId} {j : TypeInfo} (a : Addr) (hp : P.underlying tp = some (.pointer te)) (hte : P.info? te = some j) :
    (binOp .neq tp (.pointer (some a)) (.pointer (some a))).run P w = .ok (.bool false) w := by
  have h : ∀ d : Nat, (Op.equalIn (d + 1) tp (.pointer (some a)) (.pointer (some a))).run P w = .ok true w := fun d => by
    simp [Op.equalIn, run_underlying hp, sizeOf, typeInfo, hte, run_sameAddr_same]
  simp only [binOp]
  simp [Op.equal, Op.maxDepth, h 9999]
end Go.Proofs.Ybulkchms
