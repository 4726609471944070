/-
  ring.(*ID).Equal and the law's own byte-by-byte comparison, walked.
-/
import Derived.Test.YbulkchmeLE
namespace Go.Proofs.Ybulkchme
open Go.RowKit

/-- A region that draws its order, every operation quiet in a class of worlds. -/
theorem region_class {P : Program} {C : World → Prop} {id : Nat} {Q : Exit → Act → World → Prop} {a : Act} {w : World} {l : List Oper} (hm : P.follows .mixedOrders = true) (hB : Region.lexB .any l.toArray = true) (hC : C w.drew)
    (h : wpQuiet P l.toArray C (fun a' => ∀ w', C w' → Q .normal a' w') l a) : (Code.region id l.toArray true).wp P Q a w :=
  wp_region_quiet hm hB hC (by simpa using h)

theorem Twenty.later {w w' : World} {b o : Nat} {z : Nat → Int} (h : Twenty w b o z) (hb : Below w.heap.size w w') : Twenty w' b o z := fun j hj =>
  (hb.cell (p := ⟨b, o + j, none⟩) (World.block_lt_of_cell? w _ (h j hj))).trans (h j hj)

theorem below_boxed {w w' : World} (hB : Below w.heap.size w w') (o : Obj) (q : Nat) : Below w.heap.size w ((w'.alloc o).drewN q) :=
  (hB.alloc hB.size o).trans ⟨rfl, rfl, rfl, Nat.le_refl _, fun _ _ => rfl⟩

/-- A reader at a later world. -/
theorem read8 {w : World} {b o : Nat} {z : Nat → Int} (n c i : Nat) (h : Twenty w b o z) (hz : Bytes z) (hi : i + 8 ≤ 20) (hn : 8 ≤ n) (w' : World) (hb : Below w.heap.size w w') :
    Calls Yba.prog 7 #[.agg #[], .slice (some ⟨b, o + i, none⟩) n c] w' fun e w'' => e = .returned (.int .u64 (le8 z i)) ∧ Below w.heap.size w w'' :=
  (uint64_any n c i (h.later hb) hz hi hn).mono fun e w'' ⟨he, q, hw⟩ => ⟨he, by rw [hw]; exact below_boxed hb _ q⟩
theorem read4 {w : World} {b o : Nat} {z : Nat → Int} (n c i : Nat) (h : Twenty w b o z) (hz : Bytes z) (hi : i + 4 ≤ 20) (hn : 4 ≤ n) (w' : World) (hb : Below w.heap.size w w') :
    Calls Yba.prog 8 #[.agg #[], .slice (some ⟨b, o + i, none⟩) n c] w' fun e w'' => e = .returned (.int .u32 (le4 z i)) ∧ Below w.heap.size w w'' :=
  (uint32_any n c i (h.later hb) hz hi hn).mono fun e w'' ⟨he, q, hw⟩ => ⟨he, by rw [hw]; exact below_boxed hb _ q⟩

/-- A reader's contract, in a class of worlds. -/
def Reads (f : Nat) (C : World → Prop) (b o n : Nat) (v : Value) : Prop :=
  ∀ w', C w' → Calls Yba.prog f #[.agg #[], .slice (some ⟨b, o, none⟩) n n] w' fun e w'' => e = .returned v ∧ C w''

set_option maxHeartbeats 1600000 in
set_option maxRecDepth 100000 in
/-- The first words differ. -/
theorem equal_a (C : World → Prop) (w : World) (hC : C w.drew) (bx ox bt ot : Nat) (A B : Int) (hne : (A == B) = false) (rx : Reads 7 C bx ox 20 (.int .u64 A)) (rt : Reads 7 C bt ot 20 (.int .u64 B)) :
    Calls Yba.prog 5 #[.pointer (some ⟨bx, ox, none⟩), .pointer (some ⟨bt, ot, none⟩)] w fun e w' => e = .returned (.bool false) ∧ C w' := by
  go_enter Yba.func5, Yba.ntmps5
  go_wp2
  refine region_class (C := C) (by kernel_rfl) (by kernel_rfl) hC ?_
  repeat (first
    | go_big_quiet_skip
    | (go_big_quiet_want; go_big_quiet_op; first | go_big_quiet_on | (refine ⟨_, fun _ _ => rfl, ?_⟩; go_big_quiet_on)))
  go_big_quiet_want; go_big_quiet_op; refine ⟨_, rx, ?_⟩; go_big_quiet_on
  repeat (first
    | go_big_quiet_skip
    | (go_big_quiet_want; go_big_quiet_op; first | go_big_quiet_on | (refine ⟨_, fun _ _ => rfl, ?_⟩; go_big_quiet_on)))
  go_big_quiet_want; go_big_quiet_op; refine ⟨_, rt, ?_⟩; go_big_quiet_on
  repeat (first
    | go_big_quiet_skip
    | (go_big_quiet_want; go_big_quiet_op; first | go_big_quiet_on | (refine ⟨_, fun _ _ => rfl, ?_⟩; go_big_quiet_on)))
  refine wpQuiet_nil ?_
  intro w' hw'
  go_wp2
  go_ret
  exact ⟨rfl, hw'⟩

set_option maxHeartbeats 1600000 in
set_option maxRecDepth 100000 in
/-- The first words agree, the second differ. -/
theorem equal_b (C : World → Prop) (w : World) (hC : C w.drew) (bx ox bt ot : Nat) (A B A' B' : Int) (he : (A == B) = true) (hne : (A' == B') = false) (rx : Reads 7 C bx ox 20 (.int .u64 A)) (rt : Reads 7 C bt ot 20 (.int .u64 B)) (rx' : Reads 7 C bx (ox + 8) 12 (.int .u64 A')) (rt' : Reads 7 C bt (ot + 8) 12 (.int .u64 B')) :
    Calls Yba.prog 5 #[.pointer (some ⟨bx, ox, none⟩), .pointer (some ⟨bt, ot, none⟩)] w fun e w' => e = .returned (.bool false) ∧ C w' := by
  go_enter Yba.func5, Yba.ntmps5
  go_wp2
  refine region_class (C := C) (by kernel_rfl) (by kernel_rfl) hC ?_
  repeat (first
    | go_big_quiet_skip
    | (go_big_quiet_want; go_big_quiet_op; first | go_big_quiet_on | (refine ⟨_, fun _ _ => rfl, ?_⟩; go_big_quiet_on)))
  go_big_quiet_want; go_big_quiet_op; refine ⟨_, rx, ?_⟩; go_big_quiet_on
  repeat (first
    | go_big_quiet_skip
    | (go_big_quiet_want; go_big_quiet_op; first | go_big_quiet_on | (refine ⟨_, fun _ _ => rfl, ?_⟩; go_big_quiet_on)))
  go_big_quiet_want; go_big_quiet_op; refine ⟨_, rt, ?_⟩; go_big_quiet_on
  repeat (first
    | go_big_quiet_skip
    | (go_big_quiet_want; go_big_quiet_op; first | go_big_quiet_on | (refine ⟨_, fun _ _ => rfl, ?_⟩; go_big_quiet_on)))
  go_big_quiet_want; go_big_quiet_op; refine ⟨_, rx', ?_⟩; go_big_quiet_on
  repeat (first
    | go_big_quiet_skip
    | (go_big_quiet_want; go_big_quiet_op; first | go_big_quiet_on | (refine ⟨_, fun _ _ => rfl, ?_⟩; go_big_quiet_on)))
  go_big_quiet_want; go_big_quiet_op; refine ⟨_, rt', ?_⟩; go_big_quiet_on
  repeat (first
    | go_big_quiet_skip
    | (go_big_quiet_want; go_big_quiet_op; first | go_big_quiet_on | (refine ⟨_, fun _ _ => rfl, ?_⟩; go_big_quiet_on)))
  refine wpQuiet_nil ?_
  intro w' hw'
  go_wp2
  go_ret
  exact ⟨rfl, hw'⟩

set_option maxHeartbeats 1600000 in
set_option maxRecDepth 100000 in
/-- The first two words agree: the third decides. -/
theorem equal_c (C : World → Prop) (w : World) (hC : C w.drew) (bx ox bt ot : Nat) (A B A' B' A2 B2 : Int) (he : (A == B) = true) (he' : (A' == B') = true) (rx : Reads 7 C bx ox 20 (.int .u64 A)) (rt : Reads 7 C bt ot 20 (.int .u64 B)) (rx' : Reads 7 C bx (ox + 8) 12 (.int .u64 A')) (rt' : Reads 7 C bt (ot + 8) 12 (.int .u64 B')) (rx2 : Reads 8 C bx (ox + 16) 4 (.int .u32 A2)) (rt2 : Reads 8 C bt (ot + 16) 4 (.int .u32 B2)) :
    Calls Yba.prog 5 #[.pointer (some ⟨bx, ox, none⟩), .pointer (some ⟨bt, ot, none⟩)] w fun e w' => e = .returned (.bool (A2 == B2)) ∧ C w' := by
  go_enter Yba.func5, Yba.ntmps5
  go_wp2
  refine region_class (C := C) (by kernel_rfl) (by kernel_rfl) hC ?_
  repeat (first
    | go_big_quiet_skip
    | (go_big_quiet_want; go_big_quiet_op; first | go_big_quiet_on | (refine ⟨_, fun _ _ => rfl, ?_⟩; go_big_quiet_on)))
  go_big_quiet_want; go_big_quiet_op; refine ⟨_, rx, ?_⟩; go_big_quiet_on
  repeat (first
    | go_big_quiet_skip
    | (go_big_quiet_want; go_big_quiet_op; first | go_big_quiet_on | (refine ⟨_, fun _ _ => rfl, ?_⟩; go_big_quiet_on)))
  go_big_quiet_want; go_big_quiet_op; refine ⟨_, rt, ?_⟩; go_big_quiet_on
  repeat (first
    | go_big_quiet_skip
    | (go_big_quiet_want; go_big_quiet_op; first | go_big_quiet_on | (refine ⟨_, fun _ _ => rfl, ?_⟩; go_big_quiet_on)))
  go_big_quiet_want; go_big_quiet_op; refine ⟨_, rx', ?_⟩; go_big_quiet_on
  repeat (first
    | go_big_quiet_skip
    | (go_big_quiet_want; go_big_quiet_op; first | go_big_quiet_on | (refine ⟨_, fun _ _ => rfl, ?_⟩; go_big_quiet_on)))
  go_big_quiet_want; go_big_quiet_op; refine ⟨_, rt', ?_⟩; go_big_quiet_on
  repeat (first
    | go_big_quiet_skip
    | (go_big_quiet_want; go_big_quiet_op; first | go_big_quiet_on | (refine ⟨_, fun _ _ => rfl, ?_⟩; go_big_quiet_on)))
  go_big_quiet_want; go_big_quiet_op; refine ⟨_, rx2, ?_⟩; go_big_quiet_on
  repeat (first
    | go_big_quiet_skip
    | (go_big_quiet_want; go_big_quiet_op; first | go_big_quiet_on | (refine ⟨_, fun _ _ => rfl, ?_⟩; go_big_quiet_on)))
  go_big_quiet_want; go_big_quiet_op; refine ⟨_, rt2, ?_⟩; go_big_quiet_on
  repeat (first
    | go_big_quiet_skip
    | (go_big_quiet_want; go_big_quiet_op; first | go_big_quiet_on | (refine ⟨_, fun _ _ => rfl, ?_⟩; go_big_quiet_on)))
  refine wpQuiet_nil ?_
  intro w' hw'
  go_wp2
  go_ret
  exact ⟨rfl, hw'⟩

/-- (*ID).Equal: do all twenty bytes agree? -/
theorem equal_any {w : World} {bx ox bt ot : Nat} {x y : Nat → Int} (hx : Twenty w bx ox x) (hy : Twenty w bt ot y) (vx : Bytes x) (vy : Bytes y) :
    Calls Yba.prog 5 #[.pointer (some ⟨bx, ox, none⟩), .pointer (some ⟨bt, ot, none⟩)] w fun e w' => e = .returned (.bool (same20 x y)) ∧ Below w.heap.size w w' := by
  rw [words_same vx vy]
  have hC : Below w.heap.size w w.drew := (Below.refl _ _).drew
  have rx : Reads 7 (fun w' => Below w.heap.size w w') bx ox 20 (.int .u64 (le8 x 0)) := fun w' hb => by simpa using read8 20 20 0 hx vx (by omega) (by omega) w' hb
  have rt : Reads 7 (fun w' => Below w.heap.size w w') bt ot 20 (.int .u64 (le8 y 0)) := fun w' hb => by simpa using read8 20 20 0 hy vy (by omega) (by omega) w' hb
  have rx' : Reads 7 (fun w' => Below w.heap.size w w') bx (ox + 8) 12 (.int .u64 (le8 x 8)) := fun w' hb => read8 12 12 8 hx vx (by omega) (by omega) w' hb
  have rt' : Reads 7 (fun w' => Below w.heap.size w w') bt (ot + 8) 12 (.int .u64 (le8 y 8)) := fun w' hb => read8 12 12 8 hy vy (by omega) (by omega) w' hb
  have rx2 : Reads 8 (fun w' => Below w.heap.size w w') bx (ox + 16) 4 (.int .u32 (le4 x 16)) := fun w' hb => read4 4 4 16 hx vx (by omega) (by omega) w' hb
  have rt2 : Reads 8 (fun w' => Below w.heap.size w w') bt (ot + 16) 4 (.int .u32 (le4 y 16)) := fun w' hb => read4 4 4 16 hy vy (by omega) (by omega) w' hb
  cases h0 : le8 x 0 == le8 y 0 with
  | false => exact equal_a _ w hC bx ox bt ot _ _ h0 rx rt
  | true =>
    cases h8 : le8 x 8 == le8 y 8 with
    | false => exact equal_b _ w hC bx ox bt ot _ _ _ _ h0 h8 rx rt rx' rt'
    | true => exact equal_c _ w hC bx ox bt ot _ _ _ _ _ _ h0 h8 rx rt rx' rt' rx2 rt2
end Go.Proofs.Ybulkchme
