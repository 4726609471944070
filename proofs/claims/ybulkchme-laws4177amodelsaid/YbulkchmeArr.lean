/-
  Twenty bytes as an array value: laws on loading, storing and comparing it, over this program.
-/
import Derived.Test.YbulkchmeEqual
import Derived.Laws.Tables
import Derived.Laws.StructEq
namespace Go.Proofs.Ybulkchme
open Go.RowKit

/-- The array value of twenty bytes. -/
def arr (z : Nat → Int) : Array Value := ((List.range 20).map fun j => Value.int .u8 (z j)).toArray
theorem arr_size (z : Nat → Int) : (arr z).size = 20 := by simp [arr]
theorem arr_at (z : Nat → Int) (j : Nat) (hj : j < 20) : (arr z)[j]? = some (.int .u8 (z j)) := by simp [arr, hj]
theorem arr_one (z : Nat → Int) : (arr z).all (·.oneCell') = true := by
  simp only [Array.all_eq_true_iff_forall_mem, arr]
  intro x hx
  simp at hx
  obtain ⟨j, _, rfl⟩ := hx
  rfl
theorem arr_congr {x y : Nat → Int} (h : ∀ j, j < 20 → x j = y j) : arr x = arr y := by
  unfold arr
  congr 1
  exact List.map_congr_left fun j hj => by rw [h j (by simpa using hj)]
theorem arr_opt (z : Nat → Int) (j : Nat) : (arr z)[j]? = if j < 20 then some (.int .u8 (z j)) else none := by
  by_cases hj : j < 20
  · rw [if_pos hj, arr_at z j hj]
  · rw [if_neg hj, Array.getElem?_eq_none (by rw [arr_size]; omega)]
theorem arr_set (z : Nat → Int) (k : Nat) (v : Int) (hk : k < 20) : (arr z).setIfInBounds k (.int .u8 v) = arr (fun j => if j = k then v else z j) := by
  apply Array.ext_getElem?
  intro i
  rw [Array.getElem?_setIfInBounds, arr_opt, arr_opt, arr_size]
  by_cases e : k = i
  · subst e; rw [if_pos rfl, if_pos hk, if_pos hk, if_pos rfl]
  · rw [if_neg e, if_neg (fun h : i = k => e h.symm)]

theorem info22 (z : Nat → Int) : (Yba.prog.info? 22).map (·.size) = some (arr z).size := by rw [arr_size]; kernel_rfl
theorem info23 (z : Nat → Int) : (Yba.prog.info? 23).map (·.size) = some (arr z).size := by rw [arr_size]; kernel_rfl

theorem blk_old {w : World} {o : Obj} {i : Nat} {v : Obj} (h : w.heap[i]? = some v) : (w.alloc o).heap[i]? = some v :=
  (Below.heap_alloc w o i (Array.getElem?_eq_some_iff.1 h).1).trans h
theorem blk_new {w : World} {o : Obj} {i : Nat} (h : i = w.heap.size) : (w.alloc o).heap[i]? = some o := by subst h; exact heap_alloc_new w o

theorem blk_below {w w' : World} {i : Nat} {v : Obj} (hb : Below w.heap.size w w') (h : w.heap[i]? = some v) : w'.heap[i]? = some v :=
  (hb.block i (Array.getElem?_eq_some_iff.1 h).1).trans h

theorem Twenty.of_block {w : World} {g t : Nat} {z : Nat → Int} {fr : Nat × Nat} (h : w.heap[g]? = some (.cells (arr z) t fr)) : Twenty w g 0 z := fun j hj => by
  rw [Nat.zero_add, cell_of_row w g j _ t fr h, arr_at z j hj]

theorem setRow_alloc (W : World) (Z cells : Array Value) (t : TypeId) : (W.alloc (.cells Z t)).setRow W.heap.size cells = W.alloc (.cells cells t) := by
  unfold World.setRow World.alloc
  congr 1
  apply Array.ext_getElem?
  intro k
  rw [Array.getElem?_modify, Array.getElem?_push, Array.getElem?_push]
  by_cases hk : W.heap.size = k
  · subst hk; rw [if_pos rfl, if_pos rfl, if_pos rfl]; rfl
  · rw [if_neg hk, if_neg (fun h : k = W.heap.size => hk h.symm), if_neg (fun h : k = W.heap.size => hk h.symm)]

/-- A whole array stored into the block that was laid last. -/
theorem store_new {P : Program} {ops : Array Oper} {rest : List Oper} {o : Oper} {a : Act} {w : World} {Q : Exit → Act → World → Prop} (hgd : o.guard = none) (ty : TypeId) (x y : Operand) (ho : o.op = .store ty x y)
    (W : World) (g : Nat) (Z cells : Array Value) (t : TypeId) (hx : a.eval x = .pointer (some ⟨g, 0, none⟩)) (hy : a.eval y = .agg cells) (hw : w = W.alloc (.cells Z t)) (hg : g = W.heap.size)
    (hi : (P.info? ty).map (·.size) = some cells.size) (hold : Z.size = cells.size) (h1 : cells.all (·.oneCell') = true)
    (h : wpList P ops Q rest (a.put o.dst undef) (W.alloc (.cells cells t))) : wpList P ops Q (o :: rest) a w := by
  subst hg; subst hw
  refine wpList_store_row hgd ty x y ho W.heap.size cells hx hy t Z (heap_alloc_new W _) hi hold h1 ?_
  rw [setRow_alloc]; exact h

/-- A guarded load of a whole array, its guard saying yes. -/
theorem load_want {P : Program} {ops : Array Oper} {rest : List Oper} {o : Oper} {a : Act} {w : World} {Q : Exit → Act → World → Prop} (hw : Region.wanted o (yielded ops a.tmps) = true) (ty : TypeId) (x : Operand) (ho : o.op = .load ty x)
    (g : Nat) (hx : a.eval x = .pointer (some ⟨g, 0, none⟩)) (t : TypeId) (cs : Array Value) (fr : Nat × Nat) (d : TypeDesc) (hg : w.heap[g]? = some (.cells cs t fr))
    (hu : P.underlying ty = some d) (hd : (match d with | .struct _ | .array _ _ => true | _ => false) = true) (hi : (P.info? ty).map (·.size) = some cs.size)
    (h : wpList P ops Q rest (a.put o.dst (.agg cs)) w) : wpList P ops Q (o :: rest) a w :=
  BigFrame.wpList_want hw fun _ hK => wp_load_row ty x ho g hx t cs fr d hg hu hd hi (hK _ _ h)

theorem part_arr (z : Nat → Int) (j : Nat) (hj : j < 20) (w : World) : (part 5 (arr z) j).run Yba.prog w = .ok (.int .u8 (z j)) w := by
  unfold part
  rw [Sem.run_bind, Yba.isAgg5 w, Result.andThen_ok]
  simp only [Bool.false_eq_true, if_false, arr_at z j hj]
  rfl

theorem eql_loop (z : Nat → Int) (w : World) (f : Nat → Option Bool × Unit → Sem (ForInStep (Option Bool × Unit)))
    (hf : ∀ j s, j < 20 → (f j s).run Yba.prog w = .ok (.yield (none, ())) w) : ∀ l : List Nat, (∀ j ∈ l, j < 20) →
    (forIn l (none, ()) f : Sem (Option Bool × Unit)).run Yba.prog w = .ok (none, ()) w
  | [], _ => by rw [List.forIn_nil]; rfl
  | j :: l, h => by
    rw [List.forIn_cons, Sem.run_bind, hf j _ (h j (by simp)), Result.andThen_ok]
    exact eql_loop z w f hf l (fun i hi => h i (by simp [hi]))

/-- '==' of an array with itself. -/
theorem eql_self (z : Nat → Int) (w : World) : (binOp .eql 23 (.agg (arr z)) (.agg (arr z))).run Yba.prog w = .ok (.bool true) w := by
  rw [run_eql_struct]
  have : (Op.equalIn 10000 23 (.agg (arr z)) (.agg (arr z))).run Yba.prog w = .ok true w := by
    unfold Op.equalIn
    simp only [Sem.run_bind, run_underlying Yba.underlying23, Result.andThen_ok, Yba.sizeOf5 w, Std.Legacy.Range.forIn_eq_forIn_range', Std.Legacy.Range.size, Nat.sub_zero, Nat.add_sub_cancel, Nat.div_one]
    rw [eql_loop z w _ ?_ _ ?_]
    · rfl
    · intro j s hj
      simp only [Sem.run_bind, Nat.mul_one, part_arr z j hj, Result.andThen_ok, run_equalIn_int w 9998 5 .u8 .u8 _ _ Yba.underlying5]
      simp
    · intro j hj
      simpa using hj
  rw [this]; rfl
end Go.Proofs.Ybulkchme
