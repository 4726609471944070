/-
  What each statement of LawS4178BMoves does to the law's own memory.
-/
import Derived.Test.YbulkchmsGrid
import Derived.Deep.QuietTactic
import Derived.BigQuiet
namespace Go.Proofs.Ybulkchms
open Go.RowKit

/-- The state, its grants told apart from the tables. -/
structure Mid (w : World) (R Br Bp Bv Ba : Nat) (pr : Nat → Nat → Bool) (va : Nat → Nat → Int × Int) (im : Nat → Option Nat) (hm : Nat → Nat → Option (Int × Int)) (W : World) : Prop where
  lay : Lay w.heap.size R Br Bp Bv Ba
  base : Base w R Br Ba W
  grid : Grid Bp Bv pr va W
  maps : Maps R Ba im hm W

section
variable {w : World} {R Br Bp Bv Ba : Nat} {pr : Nat → Nat → Bool} {va : Nat → Nat → Int × Int} {im : Nat → Option Nat} {hm : Nat → Nat → Option (Int × Int)} {W W' : World}

theorem Mid.more (h : Mid w R Br Bp Bv Ba pr va im hm W) (hg : W.grownBy W' none) : Mid w R Br Bp Bv Ba pr va im hm W' :=
  ⟨h.lay, h.base.grown h.lay hg (by simp), h.grid.grown hg (by simp) (by simp), h.maps.grown hg (by simp)⟩
theorem grown_drew (W : World) : W.grownBy W.drew none := ⟨rfl, rfl, rfl, Nat.le_refl _, fun _ _ _ => rfl⟩
theorem grown_drewN (W : World) (n : Nat) : W.grownBy (W.drewN n) none := ⟨rfl, rfl, rfl, Nat.le_refl _, fun _ _ _ => rfl⟩

theorem Mid.setP {pr' : Nat → Nat → Bool} (h : Mid w R Br Bp Bv Ba pr va im hm W) (hg : W.grownBy W' (some Bp)) (hG : Grid Bp Bv pr' va W') : Mid w R Br Bp Bv Ba pr' va im hm W' := by
  have := h.lay.c; have := h.lay.d; have := h.lay.e
  exact ⟨h.lay, h.base.grown h.lay hg (fun k hk => by cases hk; omega), hG, h.maps.grown hg (fun k hk => by cases hk; omega)⟩
theorem Mid.setV {va' : Nat → Nat → Int × Int} (h : Mid w R Br Bp Bv Ba pr va im hm W) (hg : W.grownBy W' (some Bv)) (hG : Grid Bp Bv pr va' W') : Mid w R Br Bp Bv Ba pr va' im hm W' := by
  have := h.lay.c; have := h.lay.d; have := h.lay.e
  exact ⟨h.lay, h.base.grown h.lay hg (fun k hk => by cases hk; omega), hG, h.maps.grown hg (fun k hk => by cases hk; omega)⟩

/-- One inner map is written. -/
theorem Mid.inner {g b : Nat} {h' : Nat → Option (Int × Int)} (h : Mid w R Br Bp Bv Ba pr va im hm W) (h4 : g < 4) (hb : im g = some b) (hg : W.grownBy W' (some b)) (hM : MapV R b (view h') W') :
    Mid w R Br Bp Bv Ba pr va im (fun g' => if g' = g then h' else hm g') W' := by
  have hl := h.maps.low g h4 b hb
  have := h.lay.c; have := h.lay.d; have := h.lay.e
  refine ⟨h.lay, h.base.grown h.lay hg (fun k hk => by cases hk; omega), h.grid.grown hg (by simp; omega) (by simp; omega), ⟨h.maps.outer.kept hg (by simp; omega), fun g' a b' e => ?_, h.maps.apart, h.maps.low⟩⟩
  by_cases eg : g' = g
  · subst eg
    have : b' = b := by rw [hb] at e; exact (Option.some.inj e).symm
    subst this
    rw [if_pos rfl]; exact hM
  · rw [if_neg eg]
    exact (h.maps.inner g' a b' e).kept hg (fun e' => eg (h.maps.apart.inj g' a g h4 b' e (by rw [hb]; exact e')))

/-- A new inner map is laid into the outer one. -/
theorem Mid.outer {g b : Nat} {h' : Nat → Option (Int × Int)} (h : Mid w R Br Bp Bv Ba pr va im hm W) (hg : W.grownBy W' (some Ba)) (hb : Ba < b) (hnew : ∀ g', g' < 4 → im g' ≠ some b)
    (hO : MapV R Ba (upd (fun g => (im g).map fun b => .map (some b)) g (some (.map (some b)))) W') (hM : MapV R b (view h') W') :
    Mid w R Br Bp Bv Ba pr va (fun g' => if g' = g then some b else im g') (fun g' => if g' = g then h' else hm g') W' := by
  have := h.lay.c; have := h.lay.d; have := h.lay.e
  refine ⟨h.lay, h.base.grown h.lay hg (fun k hk => by cases hk; omega), h.grid.grown hg (by simp; omega) (by simp; omega), ⟨hO.congr fun i _ => ?_, fun g' a b' e => ?_, ⟨fun g1 a g2 c b' e1 e2 => ?_, fun g' a e => ?_⟩, fun g' a b' e => ?_⟩⟩
  · unfold upd; by_cases ei : i = g <;> simp [ei]
  · by_cases eg : g' = g
    · simp only [eg, if_true] at e ⊢
      cases e; exact hM
    · simp only [eg, if_false] at e ⊢
      exact (h.maps.inner g' a b' e).kept hg (fun e' => h.maps.apart.outer g' a (by rw [e]; exact e'.symm))
  · by_cases k1 : g1 = g <;> by_cases k2 : g2 = g
    · omega
    · simp only [k1, k2, if_true, if_false] at e1 e2; cases e1; exact absurd e2 (hnew g2 c)
    · simp only [k1, k2, if_true, if_false] at e1 e2; cases e2; exact absurd e1 (hnew g1 a)
    · simp only [k1, k2, if_false] at e1 e2; exact h.maps.apart.inj g1 a g2 c b' e1 e2
  · by_cases eg : g' = g
    · simp only [eg, if_true] at e; cases e; omega
    · simp only [eg, if_false] at e; exact h.maps.apart.outer g' a e
  · by_cases eg : g' = g
    · simp only [eg, if_true] at e; cases e; exact hb
    · simp only [eg, if_false] at e; exact h.maps.low g' a b' e

theorem St.mid (h : St w R Br Bp Bv Ba pr va im W) (L : Lay w.heap.size R Br Bp Bv Ba) : Mid w R Br Bp Bv Ba pr va im (hmOf pr va) W := ⟨L, h.base, h.grid, h.maps⟩

theorem hm_ins (g r : Nat) (x : Int × Int) : (fun g' => if g' = g then ins (hmOf pr va g) r x else hmOf pr va g') = hmOf (upd2 pr g r true) (upd2 va g r x) := by
  funext g' r'
  unfold hmOf upd2 ins
  by_cases e1 : g' = g <;> by_cases e2 : r' = r <;> simp [e1, e2]

/-- A round of the first loop whose grantee has a map. -/
theorem Mid.stA {g r b : Nat} {x : Int × Int} (h : Mid w R Br Bp Bv Ba (upd2 pr g r true) (upd2 va g r x) im (fun g' => if g' = g then ins (hmOf pr va g) r x else hmOf pr va g') W) (r4 : r < 4) (hb : im g = some b)
    (tie : ∀ g, g < 4 → ((im g).isSome = true ↔ ∃ r, r < 4 ∧ pr g r = true)) : St w R Br Bp Bv Ba (upd2 pr g r true) (upd2 va g r x) im W := by
  refine ⟨h.base, h.grid, by have := h.maps; rwa [hm_ins] at this, fun g' h4' => ?_⟩
  by_cases e : g' = g
  · subst e
    rw [hb]
    simp only [Option.isSome_some, true_iff]
    exact ⟨r, r4, by simp [upd2]⟩
  · rw [tie g' h4']
    simp [upd2, e]
/-- .. whose grantee has none yet. -/
theorem Mid.stB {g r b : Nat} {x : Int × Int} (h : Mid w R Br Bp Bv Ba (upd2 pr g r true) (upd2 va g r x) (fun g' => if g' = g then some b else im g') (fun g' => if g' = g then ins (hmOf pr va g) r x else hmOf pr va g') W) (r4 : r < 4)
    (tie : ∀ g, g < 4 → ((im g).isSome = true ↔ ∃ r, r < 4 ∧ pr g r = true)) : St w R Br Bp Bv Ba (upd2 pr g r true) (upd2 va g r x) (fun g' => if g' = g then some b else im g') W := by
  refine ⟨h.base, h.grid, by have := h.maps; rwa [hm_ins] at this, fun g' h4' => ?_⟩
  by_cases e : g' = g
  · subst e
    simp only [if_true, Option.isSome_some, true_iff]
    exact ⟨r, r4, by simp [upd2]⟩
  · simp only [e, if_false]
    rw [tie g' h4']
    simp [upd2, e]
end

/-- The state at the law's own blocks, spelt as the walk spells them. -/
def MW (w : World) (pr : Nat → Nat → Bool) (va : Nat → Nat → Int × Int) (im : Nat → Option Nat) (hm : Nat → Nat → Option (Int × Int)) (W : World) : Prop :=
  Mid w w.heap.size (w.heap.size + 1 + 1 + 1) (w.heap.size + 1 + 1 + 1 + 1) (w.heap.size + 1 + 1 + 1 + 1 + 1) (w.heap.size + 1 + 1 + 1 + 1 + 1 + 1) pr va im hm W
def SW (w : World) (pr : Nat → Nat → Bool) (va : Nat → Nat → Int × Int) (im : Nat → Option Nat) (W : World) : Prop :=
  St w w.heap.size (w.heap.size + 1 + 1 + 1) (w.heap.size + 1 + 1 + 1 + 1) (w.heap.size + 1 + 1 + 1 + 1 + 1) (w.heap.size + 1 + 1 + 1 + 1 + 1 + 1) pr va im W
section
variable {w : World} {pr : Nat → Nat → Bool} {va : Nat → Nat → Int × Int} {im : Nat → Option Nat} {hm : Nat → Nat → Option (Int × Int)} {W W' : World}
theorem MW.more (h : MW w pr va im hm W) (hg : W.grownBy W' none) : MW w pr va im hm W' := Mid.more h hg
theorem MW.size (h : MW w pr va im hm W) : w.heap.size + 7 ≤ W.heap.size := h.base.size
theorem MW.grid (h : MW w pr va im hm W) : Grid (w.heap.size + 1 + 1 + 1 + 1) (w.heap.size + 1 + 1 + 1 + 1 + 1) pr va W := Mid.grid h
theorem MW.arr (h : MW w pr va im hm W) (i : Nat) (hi : i < 4) : W.cell? ⟨w.heap.size + 1 + 1 + 1, i, none⟩ = some (kp w.heap.size i) := h.base.arr i hi
theorem MW.p (h : MW w pr va im hm W) (g r : Nat) (hg : g < 4) (hr : r < 4) : W.cell? ⟨w.heap.size + 1 + 1 + 1 + 1, g * 4 + r, none⟩ = some (.bool (pr g r)) := h.grid.p g r hg hr
theorem MW.v1 (h : MW w pr va im hm W) (g r : Nat) (hg : g < 4) (hr : r < 4) : W.cell? ⟨w.heap.size + 1 + 1 + 1 + 1 + 1, g * 8 + r * 2, none⟩ = some (.int .u32 (va g r).1) := h.grid.v1 g r hg hr
theorem MW.v2 (h : MW w pr va im hm W) (g r : Nat) (hg : g < 4) (hr : r < 4) : W.cell? ⟨w.heap.size + 1 + 1 + 1 + 1 + 1, g * 8 + r * 2 + 1, none⟩ = some (.int .u32 (va g r).2) := h.grid.v2 g r hg hr
theorem MW.roles (h : MW w pr va im hm W) : Roles w.heap.size W := h.base.roles
theorem MW.below (h : MW w pr va im hm W) : Below w.heap.size w W := h.base.below
theorem MW.outer (h : MW w pr va im hm W) : MapV w.heap.size (w.heap.size + 1 + 1 + 1 + 1 + 1 + 1) (fun g => (im g).map fun b => .map (some b)) W := h.maps.outer
theorem MW.setP {pr' : Nat → Nat → Bool} (h : MW w pr va im hm W) (hg : W.grownBy W' (some (w.heap.size + 1 + 1 + 1 + 1))) (hG : Grid (w.heap.size + 1 + 1 + 1 + 1) (w.heap.size + 1 + 1 + 1 + 1 + 1) pr' va W') : MW w pr' va im hm W' := Mid.setP h hg hG
theorem MW.setV {va' : Nat → Nat → Int × Int} (h : MW w pr va im hm W) (hg : W.grownBy W' (some (w.heap.size + 1 + 1 + 1 + 1 + 1))) (hG : Grid (w.heap.size + 1 + 1 + 1 + 1) (w.heap.size + 1 + 1 + 1 + 1 + 1) pr va' W') : MW w pr va' im hm W' := Mid.setV h hg hG
/-- The first loop's round, its grantee's map being b. -/
theorem MW.stA {g r b : Nat} {x : Int × Int} (h : MW w (upd2 pr g r true) (upd2 va g r x) im (hmOf pr va) W) (tie : ∀ g, g < 4 → ((im g).isSome = true ↔ ∃ r, r < 4 ∧ pr g r = true)) (g4 : g < 4) (r4 : r < 4) (hb : im g = some b) (hg : W.grownBy W' (some b))
    (hM : MapV w.heap.size b (upd (view (hmOf pr va g)) r (some (hv x))) W') : SW w (upd2 pr g r true) (upd2 va g r x) im W' := by
  rw [upd_ins] at hM
  exact Mid.stA (Mid.inner h g4 hb hg hM) r4 hb tie
/-- .. its grantee's map being laid anew: first into the outer map .. -/
theorem MW.outerNew {g b : Nat} {hm' : Nat → Option (Int × Int)} (h : MW w pr va im hm W) (hg : W.grownBy W' (some (w.heap.size + 1 + 1 + 1 + 1 + 1 + 1))) (hb : W.heap.size ≤ b + 1) (hnew : ∀ g', g' < 4 → im g' ≠ some b)
    (hO : MapV w.heap.size (w.heap.size + 1 + 1 + 1 + 1 + 1 + 1) (upd (fun g => (im g).map fun b => .map (some b)) g (some (.map (some b)))) W') (hM : MapV w.heap.size b (view hm') W') (hs : w.heap.size + 8 ≤ W.heap.size) :
    MW w pr va (fun g' => if g' = g then some b else im g') (fun g' => if g' = g then hm' else hm g') W' :=
  Mid.outer h hg (by omega) hnew hO hM
/-- .. then itself written. -/
theorem MW.stB {g r b : Nat} {x : Int × Int} (h : MW w (upd2 pr g r true) (upd2 va g r x) (fun g' => if g' = g then some b else im g') (fun g' => if g' = g then (fun _ => none) else hmOf pr va g') W) (tie : ∀ g, g < 4 → ((im g).isSome = true ↔ ∃ r, r < 4 ∧ pr g r = true)) (g4 : g < 4) (r4 : r < 4) (hn : im g = none) (hg : W.grownBy W' (some b))
    (hM : MapV w.heap.size b (upd (view (fun _ => none)) r (some (hv x))) W') : SW w (upd2 pr g r true) (upd2 va g r x) (fun g' => if g' = g then some b else im g') W' := by
  rw [upd_ins] at hM
  have hM2 : MapV w.heap.size b (view (ins (hmOf pr va g) r x)) W' := hM.congr fun i hi => by
    unfold view ins hmOf
    by_cases e : i = r
    · simp [e]
    · have hp : pr g i = false := by
        cases hp : pr g i with
        | false => rfl
        | true => have := (tie g g4).2 ⟨i, hi, hp⟩; rw [hn] at this; cases this
      simp [e, hp]
  have hM' := Mid.inner h g4 (by simp) hg hM2
  have e1 : (fun g' => if g' = g then ins (hmOf pr va g) r x else if g' = g then (fun _ => none) else hmOf pr va g') = (fun g' => if g' = g then ins (hmOf pr va g) r x else hmOf pr va g') := by
    funext g'; by_cases e : g' = g <;> simp [e]
  rw [e1] at hM'
  exact Mid.stB hM' r4 tie
/-- A block of plain cells that the law has laid behind its map is written. -/
theorem MW.high {b : Nat} {cs : Array Value} {ty : TypeId} {fz : Nat × Nat} (h : MW w pr va im hm W) (hg : W.grownBy W' (some b)) (hb : w.heap.size + 7 ≤ b) (hc : W.heap[b]? = some (.cells cs ty fz)) : MW w pr va im hm W' := by
  have hl := h.lay
  refine ⟨h.lay, h.base.grown h.lay hg (fun k hk => by cases hk; omega), Mid.grid h |>.grown hg (by simp; omega) (by simp; omega), ⟨h.maps.outer.kept hg (by simp; omega), fun g a b' e => ?_, h.maps.apart, h.maps.low⟩⟩
  refine (h.maps.inner g a b' e).kept hg (fun e' => ?_)
  obtain ⟨l, val, s, c, hm', _⟩ := h.maps.inner g a b' e
  have e'' : b = b' := Option.some.inj e'
  unfold MapAt at hm'
  rw [← e'', hc] at hm'
  cases hm'
theorem SW.mid (h : SW w pr va im W) : MW w pr va im (hmOf pr va) W := St.mid h (lay_start _)
theorem SW.start (w : World) (c1 c2 c3 : Array Value) : SW w (fun _ _ => false) (fun _ _ => (0, 0)) (fun _ => none)
    (((((((w.alloc (.cells c1 50)).alloc (.cells c2 50)).alloc (.cells c3 50)).alloc (.cells #[.pointer none, .pointer (some ⟨w.heap.size, 0, none⟩), .pointer (some ⟨w.heap.size + 1, 0, none⟩), .pointer (some ⟨w.heap.size + 1 + 1, 0, none⟩)] 51)).alloc
      (.cells (Array.replicate 16 (.bool false)) 53)).alloc (.cells (Array.replicate 32 (.int .u32 0)) 57)).alloc (.map #[] 0)) := St.start w c1 c2 c3
end

/-- A look-up in the head of a region that draws its order. -/
theorem still_look {P : Program} {ops : Array Oper} {W : World} {Q : Act → Prop} {o : Oper} {rest : List Oper} {a : Act} (hg : o.guard = none) (m x : Operand) (T : TypeId) (ok : Bool) (hop : o.op = Op.lookup T m x ok) (mv kv v : Value) (hm : a.eval m = mv) (hx : a.eval x = kv)
    (hrun : (Instr.lookup T mv kv ok).run P W = .ok v W) (h : wpStill P ops W Q rest (a.put o.dst v)) : wpStill P ops W Q (o :: rest) a := by
  refine wpStill_step fun K hK => ?_
  have hw : Region.wanted o (yielded ops a.tmps) = true := by simp [Region.wanted, hg]
  rw [if_pos hw]
  unfold Oper.still execOp
  simp only [hop, hm, hx, Sem.run_bind, hrun, Result.andThen_ok, Sem.run_pure, Oper.stillUpon_value]
  exact hK _ h

theorem zero61 (w : World) : (zeroValue 61).run Yba.prog w = .ok (.map none) w := by kernel_rfl
end Go.Proofs.Ybulkchms
