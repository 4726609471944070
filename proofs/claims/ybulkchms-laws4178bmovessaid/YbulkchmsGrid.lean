/-
  What LawS4178BMoves keeps in memory: its roles, its two square tables, its map of maps.
-/
import Derived.Test.YbulkchmsGrantor
import Derived.StillTailTactics
import Derived.Deep.MidRow
namespace Go.Proofs.Ybulkchms
open Go.RowKit

/-! ### The roles -/
/-- Where the law's own blocks lie: the three roles from R on, their table in Br, the two square tables in Bp and Bv, the map in Ba. -/
structure Lay (H R Br Bp Bv Ba : Nat) : Prop where
  a : H ≤ R
  b : R + 3 ≤ Br
  c : Br < Bp
  d : Bp < Bv
  e : Bv < Ba

structure Base (w : World) (R Br Ba : Nat) (W : World) : Prop where
  roles : Roles R W
  arr : ∀ i, i < 4 → W.cell? ⟨Br, i, none⟩ = some (kp R i)
  below : Below w.heap.size w W
  size : Ba < W.heap.size

theorem Base.grown {w W W' : World} {R Br Bp Bv Ba : Nat} {row : Option Nat} (h : Base w R Br Ba W) (L : Lay w.heap.size R Br Bp Bv Ba) (hg : W.grownBy W' row) (hr : ∀ k, row = some k → Bp ≤ k) : Base w R Br Ba W' := by
  have := L.a; have := L.b; have := L.c
  refine ⟨h.roles.kept hg (fun i hi e => by have := hr _ e; omega), fun i hi => hg.cell (h.arr i hi) (fun e => by have := hr _ e.symm; simp at this; omega), h.below.grown hg h.below.size (fun k hk => by have := hr k hk; omega), Nat.lt_of_lt_of_le h.size hg.size⟩

/-! ### The two tables -/
/-- 'present' lies in block Bp, 'val' in block Bv. -/
structure Grid (Bp Bv : Nat) (pr : Nat → Nat → Bool) (va : Nat → Nat → Int × Int) (W : World) : Prop where
  p : ∀ g r, g < 4 → r < 4 → W.cell? ⟨Bp, g * 4 + r, none⟩ = some (.bool (pr g r))
  v1 : ∀ g r, g < 4 → r < 4 → W.cell? ⟨Bv, g * 8 + r * 2, none⟩ = some (.int .u32 (va g r).1)
  v2 : ∀ g r, g < 4 → r < 4 → W.cell? ⟨Bv, g * 8 + r * 2 + 1, none⟩ = some (.int .u32 (va g r).2)
  pf : ∀ i, W.frozen? ⟨Bp, i, none⟩ = false
  vf : ∀ i, W.frozen? ⟨Bv, i, none⟩ = false

def upd2 {α : Type} (f : Nat → Nat → α) (g r : Nat) (x : α) : Nat → Nat → α := fun g' r' => if g' = g ∧ r' = r then x else f g' r'

theorem Grid.grown {Bp Bv : Nat} {pr : Nat → Nat → Bool} {va : Nat → Nat → Int × Int} {W W' : World} {row : Option Nat} (h : Grid Bp Bv pr va W) (hg : W.grownBy W' row) (h1 : row ≠ some Bp) (h2 : row ≠ some Bv) : Grid Bp Bv pr va W' := by
  have lp := World.block_lt_of_cell? W _ (h.p 0 0 (by omega) (by omega))
  have lv := World.block_lt_of_cell? W _ (h.v1 0 0 (by omega) (by omega))
  exact ⟨fun g r a b => hg.cell (h.p g r a b) (fun e => h1 e.symm), fun g r a b => hg.cell (h.v1 g r a b) (fun e => h2 e.symm), fun g r a b => hg.cell (h.v2 g r a b) (fun e => h2 e.symm),
    fun i => (World.frozen?_of_block (hg.block Bp lp (fun e => h1 e.symm))).trans (h.pf i), fun i => (World.frozen?_of_block (hg.block Bv lv (fun e => h2 e.symm))).trans (h.vf i)⟩

theorem grown_setCell (W : World) (a : Addr) (v : Value) : W.grownBy (W.setCell a v) (some a.block) :=
  ⟨rfl, rfl, rfl, by simp [World.setCell], fun k _ hk => Below.heap_setCell _ _ _ _ (fun e => hk (by rw [e]))⟩

theorem Grid.setP {Bp Bv : Nat} {pr : Nat → Nat → Bool} {va : Nat → Nat → Int × Int} {W : World} (h : Grid Bp Bv pr va W) (hne : Bp ≠ Bv) (g r : Nat) (hg : g < 4) (hr : r < 4) (b : Bool) :
    Grid Bp Bv (upd2 pr g r b) va (W.setCell ⟨Bp, g * 4 + r, none⟩ (.bool b)) := by
  refine ⟨fun g' r' a c => ?_, fun g' r' a c => ?_, fun g' r' a c => ?_, fun i => ?_, fun i => ?_⟩
  · unfold upd2
    by_cases e : g' = g ∧ r' = r
    · obtain ⟨rfl, rfl⟩ := e
      rw [if_pos ⟨rfl, rfl⟩]
      exact World.cell?_setCell_same W _ _ (h.p _ _ hg hr)
    · rw [if_neg e]
      rw [World.cell?_setCell_other W _ _ _ (fun e' => e (by have := congrArg Addr.off e'; simp at this; omega))]
      exact h.p g' r' a c
  · rw [World.cell?_setCell_other W _ _ _ (fun e' => hne (congrArg Addr.block e'))]; exact h.v1 g' r' a c
  · rw [World.cell?_setCell_other W _ _ _ (fun e' => hne (congrArg Addr.block e'))]; exact h.v2 g' r' a c
  · rw [World.frozen?_setCell]; exact h.pf i
  · rw [World.frozen?_setCell]; exact h.vf i

theorem Grid.setV {Bp Bv : Nat} {pr : Nat → Nat → Bool} {va : Nat → Nat → Int × Int} {W : World} (h : Grid Bp Bv pr va W) (hne : Bp ≠ Bv) (g r : Nat) (hg : g < 4) (hr : r < 4) (x : Int × Int) :
    Grid Bp Bv pr (upd2 va g r x) ((W.setCell ⟨Bv, g * 8 + r * 2, none⟩ (.int .u32 x.1)).setCell ⟨Bv, g * 8 + r * 2 + 1, none⟩ (.int .u32 x.2)) := by
  have key : ∀ (o : Nat) (v : Value), W.cell? ⟨Bv, o, none⟩ = some v → ((W.setCell ⟨Bv, g * 8 + r * 2, none⟩ (.int .u32 x.1)).setCell ⟨Bv, g * 8 + r * 2 + 1, none⟩ (.int .u32 x.2)).cell? ⟨Bv, o, none⟩ = some (if o = g * 8 + r * 2 then .int .u32 x.1 else if o = g * 8 + r * 2 + 1 then .int .u32 x.2 else v) := by
    intro o v hv
    by_cases e1 : o = g * 8 + r * 2
    · rw [if_pos e1, World.cell?_setCell_other _ _ _ _ (fun e' => by have := congrArg Addr.off e'; simp at this; omega)]
      subst e1; exact World.cell?_setCell_same W _ _ hv
    · rw [if_neg e1]
      have h1 : (W.setCell ⟨Bv, g * 8 + r * 2, none⟩ (.int .u32 x.1)).cell? ⟨Bv, o, none⟩ = some v := by
        rw [World.cell?_setCell_other _ _ _ _ (fun e' => by have := congrArg Addr.off e'; simp at this; omega)]; exact hv
      by_cases e2 : o = g * 8 + r * 2 + 1
      · rw [if_pos e2]; subst e2; exact World.cell?_setCell_same _ _ _ h1
      · rw [if_neg e2, World.cell?_setCell_other _ _ _ _ (fun e' => by have := congrArg Addr.off e'; simp at this; omega)]; exact h1
  refine ⟨fun g' r' a c => ?_, fun g' r' a c => ?_, fun g' r' a c => ?_, fun i => ?_, fun i => ?_⟩
  · rw [World.cell?_setCell_other _ _ _ _ (fun e' => hne (congrArg Addr.block e').symm), World.cell?_setCell_other _ _ _ _ (fun e' => hne (congrArg Addr.block e').symm)]; exact h.p g' r' a c
  · rw [key _ _ (h.v1 g' r' a c)]
    unfold upd2
    by_cases e : g' = g ∧ r' = r
    · obtain ⟨rfl, rfl⟩ := e; simp
    · rw [if_neg (by omega), if_neg (by omega), if_neg e]
  · rw [key _ _ (h.v2 g' r' a c)]
    unfold upd2
    by_cases e : g' = g ∧ r' = r
    · obtain ⟨rfl, rfl⟩ := e; rw [if_neg (by omega), if_pos rfl, if_pos ⟨rfl, rfl⟩]
    · rw [if_neg (by omega), if_neg (by omega), if_neg e]
  · rw [World.frozen?_setCell, World.frozen?_setCell]; exact h.pf i
  · rw [World.frozen?_setCell, World.frozen?_setCell]; exact h.vf i

/-! ### The map of maps -/
structure Maps (H Ba : Nat) (im : Nat → Option Nat) (hm : Nat → Nat → Option (Int × Int)) (W : World) : Prop where
  outer : MapV H Ba (fun g => (im g).map fun b => .map (some b)) W
  inner : Inner H im hm W
  apart : Apart Ba im
  low : ∀ g, g < 4 → ∀ b, im g = some b → Ba < b

theorem Maps.grown {H Ba : Nat} {im : Nat → Option Nat} {hm : Nat → Nat → Option (Int × Int)} {W W' : World} {row : Option Nat} (h : Maps H Ba im hm W) (hg : W.grownBy W' row) (hr : ∀ k, row = some k → k < Ba) : Maps H Ba im hm W' :=
  ⟨h.outer.kept hg (fun e => by have := hr _ e; omega), fun g a b e => (h.inner g a b e).kept hg (fun e' => by have := hr _ e'; have := h.low g a b e; omega), h.apart, h.low⟩

/-- The outer map, as the range wants it. -/
theorem Maps.outerAt {H Ba : Nat} {im : Nat → Option Nat} {hm : Nat → Nat → Option (Int × Int)} {W : World} (h : Maps H Ba im hm W) : ∃ l s c, OuterAt H Ba im l s c W := by
  obtain ⟨l, val, s, c, hat, hgd, hf⟩ := h.outer
  refine ⟨l, s, c, ?_, hgd, fun g hg => ?_⟩
  · unfold MapAt at hat ⊢
    rw [hat]
    have : ents H l val s = ents H l (fun g => .map (im g)) s := by
      unfold ents
      refine List.map_congr_left fun g hgl => ?_
      have := hf g (hgd.lt g hgl)
      rw [if_pos hgl] at this
      obtain ⟨b, hb, hv⟩ := Option.map_eq_some_iff.1 this
      simp only [← hv, hb]
    rw [this]
  · have := hf g hg
    constructor
    · intro hgl
      rw [if_pos hgl] at this
      obtain ⟨b, hb, _⟩ := Option.map_eq_some_iff.1 this
      rw [hb]; rfl
    · intro hs
      by_cases hgl : g ∈ l
      · exact hgl
      · rw [if_neg hgl, Option.map_eq_none_iff] at this
        rw [this] at hs; cases hs

/-! ### Stores into the tables, at a plain region's list of operations -/
section
variable {ops : Array Oper} {rest : List Oper} {o : Oper} {a : Act} {Q : Exit → Act → World → Prop} {W : World}

theorem at_setP (hg : o.guard = none) (x y : Operand) (hop : o.op = Op.store 4 x y) (Bp Bv g r : Nat) (b : Bool) (pr : Nat → Nat → Bool) (va : Nat → Nat → Int × Int)
    (hx : a.eval x = .pointer (some ⟨Bp, g * 4 + r, none⟩)) (hy : a.eval y = .bool b) (h : Grid Bp Bv pr va W) (hne : Bp ≠ Bv) (h4 : g < 4) (r4 : r < 4)
    (hK : ∀ W', W.grownBy W' (some Bp) → W'.heap.size = W.heap.size → Grid Bp Bv (upd2 pr g r b) va W' → wpList Yba.prog ops Q rest (a.put o.dst undef) W') : wpList Yba.prog ops Q (o :: rest) a W := by
  refine wpList_plain hg fun K hK' => ?_
  have hc := h.p g r h4 r4
  have hf := h.pf (g * 4 + r)
  have := hK' _ _ (hK _ (grown_setCell W ⟨Bp, g * 4 + r, none⟩ (.bool b)) (by simp [World.setCell]) (h.setP hne g r h4 r4 b))
  unfold Oper.wp execOp
  simp only [hop, hx, hy]
  simp [go_sem, hc, hf]
  exact this

theorem there_V {Bp Bv : Nat} {pr : Nat → Nat → Bool} {va : Nat → Nat → Int × Int} (h : Grid Bp Bv pr va W) (g r : Nat) (h4 : g < 4) (r4 : r < 4) : W.there Bv (g * 8 + r * 2) 2 := fun j hj => by
  match j, hj with
  | 0, _ => exact ⟨by rw [Nat.add_zero, h.v1 g r h4 r4]; rfl, h.vf _⟩
  | 1, _ => exact ⟨by rw [h.v2 g r h4 r4]; rfl, h.vf _⟩

theorem at_setV (hg : o.guard = none) (x y : Operand) (hop : o.op = Op.store 55 x y) (Bp Bv g r : Nat) (p q : Int) (pr : Nat → Nat → Bool) (va : Nat → Nat → Int × Int)
    (hx : a.eval x = .pointer (some ⟨Bv, g * 8 + r * 2, none⟩)) (hy : a.eval y = .agg #[.int .u32 p, .int .u32 q]) (h : Grid Bp Bv pr va W) (hne : Bp ≠ Bv) (h4 : g < 4) (r4 : r < 4)
    (hK : ∀ W', W.grownBy W' (some Bv) → W'.heap.size = W.heap.size → Grid Bp Bv pr (upd2 va g r (p, q)) W' → wpList Yba.prog ops Q rest (a.put o.dst undef) W') : wpList Yba.prog ops Q (o :: rest) a W := by
  refine wpList_store_mid hg 55 x y hop Bv (g * 8 + r * 2) #[.int .u32 p, .int .u32 q] hx hy (there_V h g r h4 r4) (by kernel_rfl) (by simp [Value.oneCell']) ?_
  exact hK _ ((grown_setCell W ⟨Bv, g * 8 + r * 2, none⟩ (.int .u32 p)).trans (grown_setCell _ ⟨Bv, g * 8 + r * 2 + 1, none⟩ (.int .u32 q))) (by simp [World.setCells, World.setCell]) (h.setV hne g r h4 r4 (p, q))
end

/-! ### The whole state -/
/-- The grants that the tables tell. -/
def hmOf (pr : Nat → Nat → Bool) (va : Nat → Nat → Int × Int) : Nat → Nat → Option (Int × Int) := fun g r => if pr g r then some (va g r) else none

structure St (w : World) (R Br Bp Bv Ba : Nat) (pr : Nat → Nat → Bool) (va : Nat → Nat → Int × Int) (im : Nat → Option Nat) (W : World) : Prop where
  base : Base w R Br Ba W
  grid : Grid Bp Bv pr va W
  maps : Maps R Ba im (hmOf pr va) W
  tie : ∀ g, g < 4 → ((im g).isSome = true ↔ ∃ r, r < 4 ∧ pr g r = true)

theorem blk_old {w : World} {o : Obj} {i : Nat} {v : Obj} (h : w.heap[i]? = some v) : (w.alloc o).heap[i]? = some v :=
  (Below.heap_alloc w o i (Array.getElem?_eq_some_iff.1 h).1).trans h
theorem blk_new {w : World} {o : Obj} {i : Nat} (h : i = w.heap.size) : (w.alloc o).heap[i]? = some o := by subst h; exact heap_alloc_new w o

/-- The world at the first loop's head. -/
theorem St.start (w : World) (c1 c2 c3 : Array Value) : St w w.heap.size (w.heap.size + 1 + 1 + 1) (w.heap.size + 1 + 1 + 1 + 1) (w.heap.size + 1 + 1 + 1 + 1 + 1) (w.heap.size + 1 + 1 + 1 + 1 + 1 + 1) (fun _ _ => false) (fun _ _ => (0, 0)) (fun _ => none)
    (((((((w.alloc (.cells c1 50)).alloc (.cells c2 50)).alloc (.cells c3 50)).alloc (.cells #[.pointer none, .pointer (some ⟨w.heap.size, 0, none⟩), .pointer (some ⟨w.heap.size + 1, 0, none⟩), .pointer (some ⟨w.heap.size + 1 + 1, 0, none⟩)] 51)).alloc
      (.cells (Array.replicate 16 (.bool false)) 53)).alloc (.cells (Array.replicate 32 (.int .u32 0)) 57)).alloc (.map #[] 0)) := by
  have e4 : (((((((w.alloc (.cells c1 50)).alloc (.cells c2 50)).alloc (.cells c3 50)).alloc (.cells #[.pointer none, .pointer (some ⟨w.heap.size, 0, none⟩), .pointer (some ⟨w.heap.size + 1, 0, none⟩), .pointer (some ⟨w.heap.size + 1 + 1, 0, none⟩)] 51)).alloc
      (.cells (Array.replicate 16 (.bool false)) 53)).alloc (.cells (Array.replicate 32 (.int .u32 0)) 57)).alloc (.map #[] 0)).heap[w.heap.size + 1 + 1 + 1]? = some (.cells #[.pointer none, .pointer (some ⟨w.heap.size, 0, none⟩), .pointer (some ⟨w.heap.size + 1, 0, none⟩), .pointer (some ⟨w.heap.size + 1 + 1, 0, none⟩)] 51) :=
    blk_old (blk_old (blk_old (blk_new (by simp))))
  have e5 : (((((((w.alloc (.cells c1 50)).alloc (.cells c2 50)).alloc (.cells c3 50)).alloc (.cells #[.pointer none, .pointer (some ⟨w.heap.size, 0, none⟩), .pointer (some ⟨w.heap.size + 1, 0, none⟩), .pointer (some ⟨w.heap.size + 1 + 1, 0, none⟩)] 51)).alloc
      (.cells (Array.replicate 16 (.bool false)) 53)).alloc (.cells (Array.replicate 32 (.int .u32 0)) 57)).alloc (.map #[] 0)).heap[w.heap.size + 1 + 1 + 1 + 1]? = some (.cells (Array.replicate 16 (.bool false)) 53) :=
    blk_old (blk_old (blk_new (by simp)))
  have e6 : (((((((w.alloc (.cells c1 50)).alloc (.cells c2 50)).alloc (.cells c3 50)).alloc (.cells #[.pointer none, .pointer (some ⟨w.heap.size, 0, none⟩), .pointer (some ⟨w.heap.size + 1, 0, none⟩), .pointer (some ⟨w.heap.size + 1 + 1, 0, none⟩)] 51)).alloc
      (.cells (Array.replicate 16 (.bool false)) 53)).alloc (.cells (Array.replicate 32 (.int .u32 0)) 57)).alloc (.map #[] 0)).heap[w.heap.size + 1 + 1 + 1 + 1 + 1]? = some (.cells (Array.replicate 32 (.int .u32 0)) 57) :=
    blk_old (blk_new (by simp))
  refine ⟨⟨?_, ?_, ?_, by simp⟩, ⟨?_, ?_, ?_, ?_, ?_⟩, ⟨?_, ?_, ⟨?_, ?_⟩, ?_⟩, ?_⟩
  · intro i hi
    match i, hi with
    | 0, _ => exact ⟨c1, blk_old (blk_old (blk_old (blk_old (blk_old (blk_old (blk_new rfl))))))⟩
    | 1, _ => exact ⟨c2, blk_old (blk_old (blk_old (blk_old (blk_old (blk_new (by simp))))))⟩
    | 2, _ => exact ⟨c3, blk_old (blk_old (blk_old (blk_old (blk_new (by simp)))))⟩
  · intro i hi
    rw [cell_of_row _ _ i _ 51 (0, 0) e4]
    match i, hi with
    | 0, _ => rfl
    | 1, _ => rfl
    | 2, _ => rfl
    | 3, _ => rfl
  · refine (((((((Below.refl _ _).alloc (Nat.le_refl _) _).alloc ?_ _).alloc ?_ _).alloc ?_ _).alloc ?_ _).alloc ?_ _).alloc ?_ _ <;> simp <;> omega
  · intro g r hg hr
    rw [cell_of_row _ _ _ _ 53 (0, 0) e5, Array.getElem?_replicate, if_pos (by omega)]
  · intro g r hg hr
    rw [cell_of_row _ _ _ _ 57 (0, 0) e6, Array.getElem?_replicate, if_pos (by omega)]
  · intro g r hg hr
    rw [cell_of_row _ _ _ _ 57 (0, 0) e6, Array.getElem?_replicate, if_pos (by omega)]
  · intro i; exact frozen_of_row _ _ i _ 53 e5
  · intro i; exact frozen_of_row _ _ i _ 57 e6
  · have := MapV.made w.heap.size ((((((w.alloc (.cells c1 50)).alloc (.cells c2 50)).alloc (.cells c3 50)).alloc (.cells #[.pointer none, .pointer (some ⟨w.heap.size, 0, none⟩), .pointer (some ⟨w.heap.size + 1, 0, none⟩), .pointer (some ⟨w.heap.size + 1 + 1, 0, none⟩)] 51)).alloc
      (.cells (Array.replicate 16 (.bool false)) 53)).alloc (.cells (Array.replicate 32 (.int .u32 0)) 57))
    simpa using this
  · intro g _ b e; cases e
  · intro g _ g' _ b e; cases e
  · intro g _ e; cases e
  · intro g _ b e; cases e
  · intro g hg; simp
theorem lay_start (n : Nat) : Lay n n (n + 1 + 1 + 1) (n + 1 + 1 + 1 + 1) (n + 1 + 1 + 1 + 1 + 1) (n + 1 + 1 + 1 + 1 + 1 + 1) := ⟨by omega, by omega, by omega, by omega, by omega⟩
end Go.Proofs.Ybulkchms
