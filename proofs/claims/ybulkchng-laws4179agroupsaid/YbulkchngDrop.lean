/-
  (*topDocs).offer, the heap full and the match not kept.
-/
import Derived.Test.YbulkchngOwn
namespace Go.Proofs.Ybulkchng
open Go.RowKit Go.Sort
attribute [local go_sem] run_store_float

set_option maxHeartbeats 3200000 in
set_option maxRecDepth 100000 in
theorem offer_drop (cb limit : Nat) (v : Value) (h : Array Mt) (total B : Nat) (m : Mt) (w : World) (c : Coll cb limit v h total B w) (hm : m.2 < 1024) (hl : ¬ h.size < limit) (h0 : 0 < h.size) (hsm : ∀ t, t < h.size → h[t]!.2 < 1024) (hw : worse h[0]! m = false) :
    Calls Yba.prog 32 #[.pointer (some ⟨cb, 0, none⟩), ev m] w fun e w' => e = .returned (.tuple #[]) ∧ w.grownBy w' none := by
  obtain ⟨g, cap, rfl, hg, hc, hR⟩ := c.own.row h0
  have hlti : decide ((h.size : Int) < (limit : Int)) = false := by simp; omega
  obtain ⟨x, hx⟩ : ∃ x, x = h[0]! := ⟨_, rfl⟩
  have hx2 : x.2 < 1024 := by rw [hx]; exact hsm 0 h0
  have e0 := hR.c0 0 h0
  have e1 := hR.c1 0 h0
  rw [← hx] at e0 e1 hw
  simp only [Nat.zero_mul, Nat.zero_add] at e0 e1
  have c0 := c.c0
  have c1 := c.c1
  have h0i : (0 : Int) < (h.size : Int) := by omega
  obtain ⟨W1, hW1⟩ : ∃ W1, W1 = w.alloc (.cells #[.int .i64 m.1, .float .f64 (fl m.2)] 40) := ⟨_, rfl⟩
  have hg1 : w.grownBy W1 none := by rw [hW1]; exact World.grownBy_alloc _ _ none
  have m0 : W1.cell? ⟨w.heap.size, 0, none⟩ = some (.int .i64 m.1) := by rw [hW1, World.cell?_alloc_new]; rfl
  have m1 : W1.cell? ⟨w.heap.size, 1, none⟩ = some (.float .f64 (fl m.2)) := by rw [hW1, World.cell?_alloc_new]; rfl
  have d0 := hg1.cell c0 (by simp)
  have d1 := hg1.cell c1 (by simp)
  have f0 := hg1.cell e0 (by simp)
  have f1 := hg1.cell e1 (by simp)
  have HW1 := hW1.symm
  have HG1 : Hid (w.grownBy W1 none) := hg1
  clear c hR hx c0 c1 e0 e1 hW1 hg1
  unfold ev
  go_enter Yba.func32, Yba.ntmps32
  go_wp2
  go_quiet (fail)
  go_wp2
  have p1 := (grown_drewN W1 nq).cell d1 (by simp)
  have p2 := (grown_drewN W1 nq).cell f0 (by simp)
  have p3 := (grown_drewN W1 nq).cell f1 (by simp)
  have p4 := (grown_drewN W1 nq).cell m0 (by simp)
  have p5 := (grown_drewN W1 nq).cell m1 (by simp)
  have HG2 : Hid (w.grownBy (W1.drewN nq) none) := HG1.out.trans (grown_drewN _ _)
  clear d0 d1 f0 f1 m0 m1 HG1
  generalize W1.drewN nq = W2 at p1 p2 p3 p4 p5 HG2 ⊢
  go_still_tail 7, (by kernel_rfl)
  go_wp2_with (go_at_call 38; refine (worse_any x m _ hx2 hm).mono ?_; rintro z w3 ⟨rfl, hg3⟩; rw [hw])
  refine bodyPost_ret (v := .tuple #[]) (by simp [results, Yba.results32, go_sem]) rfl ?_
  exact ⟨rfl, (HG2.out.trans (grown_drew _)).trans hg3⟩
end Go.Proofs.Ybulkchng
