/-
  (*object).path: its contract over a chain of objects that lie one block each.
-/
import Derived.Test.YbulkchmsRows
import Derived.WalkKit
import Derived.WalkSpells
import Derived.Below
import Derived.Laws.Rows
import Derived.Laws.Pointers
import Derived.Deep.RegionHeld3
import Derived.Deep.AppendLies
import Derived.Deep.DrawnRows
import Derived.Deep.QuietTactic
import Derived.BigQuiet
namespace Go.Proofs.Ybulkchms
open Go.RowKit
attribute [local go_sem ↓] Go.wp_at_zero Go.wp_at_succ

/-- An object's cells. -/
def objC (k : Int) (s : ByteArray) (p : Option Addr) : Array Value := #[.int .i64 k, .string s, .pointer p, .pointer none, .int .u32 0, .bool false, .map none, .map none, .slice none 0 0]
/-- The parent of object j of the chain whose object j lies in block O + 1 + j. -/
def par (O j : Nat) : Option Addr := if j = 0 then none else some ⟨O + j, 0, none⟩

/-- The chain's objects lie in the world. -/
def Objs (O n : Nat) (kd : Nat → Int) (nm : Nat → ByteArray) (w : World) : Prop :=
  ∀ j, j < n → w.heap[O + 1 + j]? = some (.cells (objC (kd j) (nm j) (par O j)) 34)

theorem Objs.lt {O n : Nat} {kd : Nat → Int} {nm : Nat → ByteArray} {w : World} (h : Objs O n kd nm w) (j : Nat) (hj : j < n) : O + 1 + j < w.heap.size :=
  (Array.getElem?_eq_some_iff.1 (h j hj)).1
theorem Objs.cell {O n : Nat} {kd : Nat → Int} {nm : Nat → ByteArray} {w : World} (h : Objs O n kd nm w) (j i : Nat) (hj : j < n) : w.cell? ⟨O + 1 + j, i, none⟩ = (objC (kd j) (nm j) (par O j))[i]? :=
  cell_of_row w _ i _ 34 (0, 0) (h j hj)
theorem Objs.below {O n : Nat} {kd : Nat → Int} {nm : Nat → ByteArray} {w w' : World} (h : Objs O n kd nm w) (hb : Below w.heap.size w w') : Objs O n kd nm w' := fun j hj =>
  (hb.block _ (h.lt j hj)).trans (h j hj)
theorem Objs.drew {O n : Nat} {kd : Nat → Int} {nm : Nat → ByteArray} {w : World} (h : Objs O n kd nm w) : Objs O n kd nm w.drew := h
theorem Objs.alloc {O n : Nat} {kd : Nat → Int} {nm : Nat → ByteArray} {w : World} (h : Objs O n kd nm w) (o : Obj) : Objs O n kd nm (w.alloc o) := h.below ((Below.refl _ _).alloc (Nat.le_refl _) o)

/-- What path answers at object i. -/
def pathOf (kd : Nat → Int) (nm : Nat → ByteArray) : Nat → List ByteArray
  | 0 => if kd 0 = 4 then [] else [nm 0]
  | i + 1 => if kd (i + 1) = 4 then [] else pathOf kd nm i ++ [nm (i + 1)]

theorem pathOf_le (kd : Nat → Int) (nm : Nat → ByteArray) (i : Nat) : (pathOf kd nm i).length ≤ i + 1 := by
  induction i with
  | zero => unfold pathOf; split <;> simp
  | succ i ih => unfold pathOf; split <;> simp; omega

/-- The strings as values. -/
def strV (l : List ByteArray) : List Value := l.map Value.string

/-- What the contract says of the value that is handed back. -/
def Got (w : World) (kd : Nat → Int) (nm : Nat → ByteArray) (i : Nat) (v : Value) (w' : World) : Prop :=
  w'.ownsRow w.heap.size 9 1 v (pathOf kd nm i).length (strV (pathOf kd nm i)) ∧ Below w.heap.size w w' ∧ (kd i = 4 → v = .slice none 0 0)

theorem info9 : (Yba.prog.info? 9).map (fun i => (i.zero, i.size, i.bytes)) = some (some (.string ByteArray.empty), 1, 16) := by kernel_rfl

/-- The system: nil. -/
theorem path_sys {O n : Nat} {kd : Nat → Int} {nm : Nat → ByteArray} (i : Nat) (hi : i < n) (w : World) (h : Objs O n kd nm w) (hk : kd i = 4) :
    Calls Yba.prog 5 #[.pointer (some ⟨O + 1 + i, 0, none⟩)] w fun e w' => ∃ v, e = .returned v ∧ Got w kd nm i v w' := by
  have c0 : w.cell? ⟨O + 1 + i, 0, none⟩ = some (.int .i64 4) := by rw [h.cell i 0 hi, hk]; rfl
  have hg : Got w kd nm i (.slice none 0 0) w := by
    have e : pathOf kd nm i = [] := by cases i <;> simp [pathOf, hk]
    refine ⟨?_, Below.refl _ _, fun _ => rfl⟩
    rw [e]; exact World.ownsRow_nil _ _ _ _
  clear h hk
  have HG : Hid (Got w kd nm i (.slice none 0 0) w) := hg
  clear hg
  go_enter Yba.func5, Yba.ntmps5
  go_wp2
  go_ret
  exact ⟨_, rfl, HG.out⟩

/-- The root: its own name. -/
theorem path_root {O n : Nat} {kd : Nat → Int} {nm : Nat → ByteArray} (hn : 0 < n) (w : World) (h : Objs O n kd nm w) (hk : kd 0 ≠ 4) :
    Calls Yba.prog 5 #[.pointer (some ⟨O + 1 + 0, 0, none⟩)] w fun e w' => ∃ v, e = .returned v ∧ Got w kd nm 0 v w' := by
  have c0 : w.cell? ⟨O + 1, 0, none⟩ = some (.int .i64 (kd 0)) := by have := h.cell 0 0 hn; rwa [Nat.add_zero] at this
  have c1 : w.cell? ⟨O + 1, 1, none⟩ = some (.string (nm 0)) := by have := h.cell 0 1 hn; rwa [Nat.add_zero] at this
  have c2 : w.cell? ⟨O + 1, 2, none⟩ = some (.pointer none) := by have := h.cell 0 2 hn; rwa [Nat.add_zero] at this
  have hb : (kd 0 == 4) = false := by simpa using hk
  have hg : Got w kd nm 0 (.slice (some ⟨w.heap.size, 0, none⟩) 1 1) (w.alloc (.cells #[.string (nm 0)] 9)) := by
    have e : pathOf kd nm 0 = [nm 0] := by simp [pathOf, hk]
    refine ⟨?_, (Below.refl _ _).alloc (Nat.le_refl _) _, fun h => absurd h hk⟩
    rw [e]; exact World.ownsRow_lit w #[.string (nm 0)] 1 (Nat.le_refl _) (by unfold maxLen; omega) rfl
  have HG : Hid (Got w kd nm 0 (.slice (some ⟨w.heap.size, 0, none⟩) 1 1) (w.alloc (.cells #[.string (nm 0)] 9))) := hg
  clear hg h hk
  rw [Nat.add_zero]
  go_enter Yba.func5, Yba.ntmps5
  go_wp2
  go_ret
  exact ⟨_, rfl, HG.out⟩

/-- What is asked of a class of worlds by the step. -/
structure Stays (X : World → Prop) : Prop where
  drew : ∀ w, X w → X w.drew
  alloc : ∀ w o, X w → X (w.alloc o)
  below : ∀ w w', X w → Below w.heap.size w w' → X w'

theorem far_of {w1 : World} {B e size n b : Nat} {v : Value} {xs : List Value} (h : w1.ownsRow B e size v n xs) (hb : b < B) : some b ≠ v.ownBlock := fun e => by
  have := (h.lt b e.symm).1; omega
theorem own_low {w w1 : World} {o : Obj} {e size n : Nat} {v : Value} {xs : List Value} (h : w1.ownsRow (w.alloc o).drew.heap.size e size v n xs) : w1.ownsRow w.heap.size e size v n xs := by
  refine ⟨h.1, ?_⟩
  rcases h.2 with h | ⟨g, cap, cur, a, b, c⟩
  · exact .inl h
  · exact .inr ⟨g, cap, cur, a, by simp at b; omega, c⟩
theorem new_kept {w w1 : World} {o : Obj} (h : Below (w.alloc o).drew.heap.size (w.alloc o).drew w1) : w1.heap[w.heap.size]? = some o :=
  (h.block _ (by simp)).trans (heap_alloc_new w o)
theorem keepA {w w1 : World} {a : Addr} {x : Value} (c : w.cell? a = some x) (hb : Below w.drew.heap.size w.drew w1) : w1.cell? a = some x :=
  (hb.cell (World.block_lt_of_cell? w a c)).trans c
theorem keepB {w w1 : World} {o : Obj} {a : Addr} {x : Value} (c : w.cell? a = some x) (hb : Below (w.alloc o).drew.heap.size (w.alloc o).drew w1) : w1.cell? a = some x := by
  have h := World.block_lt_of_cell? w a c
  exact (hb.cell (by simp; omega)).trans ((World.grownBy_alloc w o none).cell c (by simp))

theorem belA {w w1 w2 : World} {o : Obj} {e size n : Nat} {v : Value} {xs : List Value} (hb : Below w.drew.heap.size w.drew w1) (hg : (w1.alloc o).grownBy w2 v.ownBlock) (ho : w1.ownsRow w.heap.size e size v n xs) : Below w.heap.size w w2 := by
  have h1 : Below w.heap.size w w1 := ((Below.refl _ _).drew).trans hb
  exact (h1.alloc h1.size o).grown hg (by have := h1.size; simp; omega) (fun k hk => (ho.lt k hk).1)
theorem belB {w w1 w2 : World} {o : Obj} {e size n : Nat} {v : Value} {xs : List Value} (hb : Below (w.alloc o).drew.heap.size (w.alloc o).drew w1) (hg : w1.grownBy w2 v.ownBlock) (ho : w1.ownsRow w.heap.size e size v n xs) : Below w.heap.size w w2 := by
  have h1 : Below w.heap.size w w1 := (((Below.refl _ _).alloc (Nat.le_refl _) o).drew).trans (hb.mono (by simp))
  exact h1.grown hg h1.size (fun k hk => (ho.lt k hk).1)

set_option maxHeartbeats 3200000 in
set_option maxRecDepth 100000 in
theorem path_core (b bp : Nat) (s : ByteArray) (k : Int) (w : World) (c0 : w.cell? ⟨b, 0, none⟩ = some (.int .i64 k)) (c1 : w.cell? ⟨b, 1, none⟩ = some (.string s)) (c2 : w.cell? ⟨b, 2, none⟩ = some (.pointer (some ⟨bp, 0, none⟩)))
    (hk : (k == 4) = false) (X : World → Prop) (hS : Stays X) (hX : X w) (m : Nat) (xs : List Value) (hm : m ≤ 1024)
    (ih : ∀ w', X w' → Calls Yba.prog 5 #[.pointer (some ⟨bp, 0, none⟩)] w' fun e w'' => ∃ v, e = .returned v ∧ w''.ownsRow w'.heap.size 9 1 v m xs ∧ Below w'.heap.size w' w'') :
    Calls Yba.prog 5 #[.pointer (some ⟨b, 0, none⟩)] w fun e w' => ∃ v, e = .returned v ∧ w'.ownsRow w.heap.size 9 1 v (m + 1) (xs ++ [.string s]) ∧ Below w.heap.size w w' := by
  obtain ⟨i0, hi0, hz0, hz1, hz2⟩ := info_parts info9
  have lb := World.block_lt_of_cell? w _ c1
  have IH : Hid (∀ w', X w' → Calls Yba.prog 5 #[.pointer (some ⟨bp, 0, none⟩)] w' fun e w'' => ∃ v, e = .returned v ∧ w''.ownsRow w'.heap.size 9 1 v m xs ∧ Below w'.heap.size w' w'') := ih
  clear ih
  have HX : Hid (X w) := hX
  clear hX
  go_enter Yba.func5, Yba.ntmps5
  go_wp2_with fail
  have hml : m + 1 ≤ maxLen := by unfold maxLen; omega
  have hbk : (m + 1) * 16 ≤ 140737488355328 := by omega
  go_region_held3 (fun w' => w'.cell? ⟨b, 1, none⟩ = some (.string s) ∧ w'.cell? ⟨b, 2, none⟩ = some (.pointer (some ⟨bp, 0, none⟩)))
    (first
      | exact ⟨keepA c1 hbel, keepA c2 hbel⟩
      | exact ⟨keepB c1 hbel, keepB c2 hbel⟩
      | (go_split_ands
         refine ⟨?_, ?_⟩
         · (rw [hgrow.cell_far _ (by first | omega | (simp; omega)) (far_of hown2' lb)]; first | assumption | (simp; assumption))
         · (rw [hgrow.cell_far _ (by first | omega | (simp; omega)) (far_of hown2' lb)]; first | assumption | (simp; assumption)))
      | go_keep)
    (first
      | (go_at_call 5; refine (IH.out _ ?_).mono ?_; (first | exact hS.drew _ HX.out | exact hS.drew _ (hS.alloc _ _ HX.out)); rintro e w1 ⟨v, rfl, hown, hbel⟩; have hsz := hbel.size; simp at hsz; have hown2' : w1.ownsRow w.heap.size 9 1 v m xs := (by first | exact hown | exact own_low hown))
      | (refine step_append_lies _ (by rfl) (.tmp 24) (.tmp 29) 22 (by rfl) w.heap.size 9 i0 _ 1 16 Yba.underlying22 hi0 hz0 hz1 hz2 rfl (by omega) v m xs (by rfl) (hown2'.alloc _) ⟨w1.heap.size, 0, none⟩ 1 1 [.string s] (by rfl) (by rfl) (World.news_of_block (cs := #[.string s]) (t := 9) (fr := (0, 0)) (heap_alloc_new w1 _)) (by simp [Value.oneCell']) (by omega) hml hbk (by simp; omega) (w1.heap.size + 1) (by simp) ?_; intro gg cap w2 hown2 hgrow hat hlt)
      | (refine step_append_lies _ (by rfl) (.tmp 24) (.tmp 29) 22 (by rfl) w.heap.size 9 i0 _ 1 16 Yba.underlying22 hi0 hz0 hz1 hz2 rfl (by omega) v m xs (by rfl) hown2' ⟨w.heap.size, 0, none⟩ 1 1 [.string s] (by rfl) (by rfl) (World.news_of_block (cs := #[.string s]) (t := 9) (fr := (0, 0)) (new_kept hbel)) (by simp [Value.oneCell']) (by omega) hml hbk (by omega) w1.heap.size rfl ?_; intro gg cap w2 hown2 hgrow hat hlt))
  all_goals
    go_wp2
    go_ret
    first
      | exact ⟨_, rfl, hown2, belA hbel hgrow hown2'⟩
      | exact ⟨_, rfl, hown2, belB hbel hgrow hown2'⟩

theorem objs_stay (O n : Nat) (kd : Nat → Int) (nm : Nat → ByteArray) : Stays (Objs O n kd nm) := ⟨fun _ h => h.drew, fun _ o h => h.alloc o, fun _ _ h hb => h.below hb⟩

/-- **(*object).path at object i of the chain.** -/
theorem path_any {O n : Nat} {kd : Nat → Int} {nm : Nat → ByteArray} (hn : n ≤ 1024) : ∀ (i : Nat), i < n → ∀ w, Objs O n kd nm w →
    Calls Yba.prog 5 #[.pointer (some ⟨O + 1 + i, 0, none⟩)] w fun e w' => ∃ v, e = .returned v ∧ Got w kd nm i v w'
  | 0, hi, w, h => by
    by_cases hk : kd 0 = 4
    · exact path_sys 0 hi w h hk
    · exact path_root hi w h hk
  | i + 1, hi, w, h => by
    by_cases hk : kd (i + 1) = 4
    · exact path_sys (i + 1) hi w h hk
    have e : pathOf kd nm (i + 1) = pathOf kd nm i ++ [nm (i + 1)] := by simp [pathOf, hk]
    refine (path_core (O + 1 + (i + 1)) (O + 1 + i) (nm (i + 1)) (kd (i + 1)) w (h.cell (i + 1) 0 hi) (h.cell (i + 1) 1 hi) ?_ (by simpa using hk) (Objs O n kd nm) (objs_stay O n kd nm) h
      (pathOf kd nm i).length (strV (pathOf kd nm i)) (by have := pathOf_le kd nm i; omega) ?_).mono ?_
    · rw [h.cell (i + 1) 2 hi]
      show some (Value.pointer (par O (i + 1))) = _
      unfold par
      rw [if_neg (by omega), show O + 1 + i = O + (i + 1) by omega]
    · intro w' h'
      exact (path_any hn i (by omega) w' h').mono fun e w'' ⟨v, he, hg⟩ => ⟨v, he, hg.1, hg.2.1⟩
    · rintro e' w' ⟨v, he, ho, hb⟩
      refine ⟨v, he, ?_, hb, fun h => absurd h hk⟩
      rw [e]
      simpa [strV] using ho
end Go.Proofs.Ybulkchms
