/-
  newWindow.
-/
import Derived.Test.YbulkchngGather
namespace Go.Proofs.Ybulkchng
open Go.RowKit
attribute [local go_sem] run_store_float

theorem four (w : World) (A B C D : Obj) : ((((w.alloc A).alloc B).alloc C).alloc D).drew.heap[w.heap.size]? = some A ∧ ((((w.alloc A).alloc B).alloc C).alloc D).drew.heap[w.heap.size + 1]? = some B ∧ ((((w.alloc A).alloc B).alloc C).alloc D).drew.heap[w.heap.size + 1 + 1]? = some C ∧ ((((w.alloc A).alloc B).alloc C).alloc D).drew.heap[w.heap.size + 1 + 1 + 1]? = some D ∧ w.grownBy ((((w.alloc A).alloc B).alloc C).alloc D).drew none := by
  have s1 : (w.alloc A).heap.size = w.heap.size + 1 := by simp
  have s2 : ((w.alloc A).alloc B).heap.size = w.heap.size + 1 + 1 := by simp
  have s3 : (((w.alloc A).alloc B).alloc C).heap.size = w.heap.size + 1 + 1 + 1 := by simp
  refine ⟨?_, ?_, ?_, ?_, ((((World.grownBy_alloc _ _ none).trans (World.grownBy_alloc _ _ none)).trans (World.grownBy_alloc _ _ none)).trans (World.grownBy_alloc _ _ none)).trans (grown_drew _)⟩
  · show ((((w.alloc A).alloc B).alloc C).alloc D).heap[w.heap.size]? = some A
    rw [Below.heap_alloc _ _ _ (by omega), Below.heap_alloc _ _ _ (by omega), Below.heap_alloc _ _ _ (by omega)]
    exact heap_alloc_new w A
  · show ((((w.alloc A).alloc B).alloc C).alloc D).heap[w.heap.size + 1]? = some B
    rw [Below.heap_alloc _ _ _ (by omega), Below.heap_alloc _ _ _ (by omega), ← s1]
    exact heap_alloc_new _ B
  · show ((((w.alloc A).alloc B).alloc C).alloc D).heap[w.heap.size + 1 + 1]? = some C
    rw [Below.heap_alloc _ _ _ (by omega), ← s2]
    exact heap_alloc_new _ C
  · show ((((w.alloc A).alloc B).alloc C).alloc D).heap[w.heap.size + 1 + 1 + 1]? = some D
    rw [← s3]
    exact heap_alloc_new _ D

/-- A new window's blocks. -/
def MadeW (m cb gb ob oc base wb bb rb kb : Nat) (w : World) : Prop :=
  w.heap[wb]? = some (.cells #[.pointer (some ⟨cb, 0, none⟩), .pointer (some ⟨gb, 0, none⟩), .slice (some ⟨ob, 0, none⟩) m oc, .int .i64 base, .int .i64 0, .int .i64 0, .slice (some ⟨bb, 0, none⟩) m m, .slice (some ⟨rb, 0, none⟩) m m, .slice none 0 0, .slice none 0 0, .slice none 0 0, .slice (some ⟨kb, 0, none⟩) m m] 67 (0, 0)) ∧
  (∃ cs : Array Value, cs.size = m ∧ w.heap[bb]? = some (.cells cs 35 (0, 0))) ∧ (∃ cs : Array Value, cs.size = m ∧ w.heap[rb]? = some (.cells cs 3 (0, 0))) ∧ (∃ cs : Array Value, cs.size = m ∧ w.heap[kb]? = some (.cells cs 3 (0, 0)))

theorem mk25_1 (w : World) : (Instr.makeSlice 25 (.int .i64 1) (.int .i64 1)).run Yba.prog w = .ok (.slice (some ⟨w.heap.size, 0, none⟩) 1 1) (w.alloc (.cells #[.float .f64 0] 35)) := by kernel_rfl
theorem mk24_1 (w : World) : (Instr.makeSlice 24 (.int .i64 1) (.int .i64 1)).run Yba.prog w = .ok (.slice (some ⟨w.heap.size, 0, none⟩) 1 1) (w.alloc (.cells #[.int .i64 0] 3)) := by kernel_rfl

set_option maxHeartbeats 6400000 in
set_option maxRecDepth 100000 in
theorem newWindow1 (cb gb ob oc base : Nat) (w : World) :
    Calls Yba.prog 14 #[.pointer (some ⟨cb, 0, none⟩), .pointer (some ⟨gb, 0, none⟩), .slice (some ⟨ob, 0, none⟩) 1 oc, .int .i64 base] w fun e w' => e = .returned (.pointer (some ⟨w.heap.size, 0, none⟩)) ∧ ∃ bb rb kb, MadeW 1 cb gb ob oc base w.heap.size bb rb kb w' ∧ (w.heap.size < bb ∧ w.heap.size < rb ∧ w.heap.size < kb ∧ bb ≠ rb ∧ bb ≠ kb ∧ rb ≠ kb) ∧ w.grownBy w' none := by
  have m1 := mk25_1
  have m2 := mk24_1
  go_enter Yba.func14, Yba.ntmps14
  go_wp2
  go_region
  all_goals
    go_wp2
    go_ret
    refine ⟨rfl, _, _, _, ⟨(four _ _ _ _ _).1, ⟨#[.float .f64 0], rfl, ?_⟩, ⟨#[.int .i64 0], rfl, ?_⟩, ⟨#[.int .i64 0], rfl, ?_⟩⟩, by omega, (four _ _ _ _ _).2.2.2.2⟩
    · first | exact (four _ _ _ _ _).2.1 | exact (four _ _ _ _ _).2.2.1 | exact (four _ _ _ _ _).2.2.2.1
    · first | exact (four _ _ _ _ _).2.1 | exact (four _ _ _ _ _).2.2.1 | exact (four _ _ _ _ _).2.2.2.1
    · first | exact (four _ _ _ _ _).2.1 | exact (four _ _ _ _ _).2.2.1 | exact (four _ _ _ _ _).2.2.2.1

theorem mk25_2 (w : World) : (Instr.makeSlice 25 (.int .i64 2) (.int .i64 2)).run Yba.prog w = .ok (.slice (some ⟨w.heap.size, 0, none⟩) 2 2) (w.alloc (.cells #[.float .f64 0, .float .f64 0] 35)) := by kernel_rfl
theorem mk24_2 (w : World) : (Instr.makeSlice 24 (.int .i64 2) (.int .i64 2)).run Yba.prog w = .ok (.slice (some ⟨w.heap.size, 0, none⟩) 2 2) (w.alloc (.cells #[.int .i64 0, .int .i64 0] 3)) := by kernel_rfl

set_option maxHeartbeats 6400000 in
set_option maxRecDepth 100000 in
theorem newWindow2 (cb gb ob oc base : Nat) (w : World) :
    Calls Yba.prog 14 #[.pointer (some ⟨cb, 0, none⟩), .pointer (some ⟨gb, 0, none⟩), .slice (some ⟨ob, 0, none⟩) 2 oc, .int .i64 base] w fun e w' => e = .returned (.pointer (some ⟨w.heap.size, 0, none⟩)) ∧ ∃ bb rb kb, MadeW 2 cb gb ob oc base w.heap.size bb rb kb w' ∧ (w.heap.size < bb ∧ w.heap.size < rb ∧ w.heap.size < kb ∧ bb ≠ rb ∧ bb ≠ kb ∧ rb ≠ kb) ∧ w.grownBy w' none := by
  have m1 := mk25_2
  have m2 := mk24_2
  go_enter Yba.func14, Yba.ntmps14
  go_wp2
  go_region
  all_goals
    go_wp2
    go_ret
    refine ⟨rfl, _, _, _, ⟨(four _ _ _ _ _).1, ⟨#[.float .f64 0, .float .f64 0], rfl, ?_⟩, ⟨#[.int .i64 0, .int .i64 0], rfl, ?_⟩, ⟨#[.int .i64 0, .int .i64 0], rfl, ?_⟩⟩, by omega, (four _ _ _ _ _).2.2.2.2⟩
    · first | exact (four _ _ _ _ _).2.1 | exact (four _ _ _ _ _).2.2.1 | exact (four _ _ _ _ _).2.2.2.1
    · first | exact (four _ _ _ _ _).2.1 | exact (four _ _ _ _ _).2.2.1 | exact (four _ _ _ _ _).2.2.2.1
    · first | exact (four _ _ _ _ _).2.1 | exact (four _ _ _ _ _).2.2.1 | exact (four _ _ _ _ _).2.2.2.1
end Go.Proofs.Ybulkchng
