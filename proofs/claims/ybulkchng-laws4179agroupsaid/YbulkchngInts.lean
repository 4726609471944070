/-
  The sort of the clauses' order: it is in order already.
-/
import Derived.Test.YbulkchngMat
namespace Go.Proofs.Ybulkchng
open Go.RowKit
attribute [local go_sem] run_store_float

theorem isNaN_fl (a : Nat) (ha : a < 100000) (w : World) : Calls Yba.prog 37 #[.float .f64 (fl a)] w fun e w' => e = .returned (.bool false) ∧ w = w' := by
  have n := neq_fl a a (by omega) (by omega)
  simp at n
  go_enter Yba.func37, Yba.ntmps37
  go_wp2
  go_ret
  exact ⟨rfl, rfl⟩

def cmpN (a b : Nat) : Int := if a < b then -1 else if b < a then 1 else 0

set_option maxRecDepth 100000 in
theorem compare_fl (a b : Nat) (ha : a < 100000) (hb : b < 100000) (w : World) : Calls Yba.prog 28 #[.float .f64 (fl a), .float .f64 (fl b)] w fun e w' => e = .returned (.int .i64 (cmpN a b)) ∧ w = w' := by
  have l := lss_fl a b (by omega) (by omega)
  have g := gtr_fl a b (by omega) (by omega)
  by_cases h1 : a < b
  · have l1 : (FloatKind.f64.format.order (fl a) (fl b) == some .lt) = true := by rw [l]; simp [h1]
    clear l g
    go_enter Yba.func28, Yba.ntmps28
    go_wp2_with (first | (go_at_call_of 37 (Value.float .f64 (fl a)); refine (isNaN_fl a ha _).mono ?_; rintro e w1 ⟨rfl, rfl⟩) | (go_at_call 37; refine (isNaN_fl b hb _).mono ?_; rintro e w1 ⟨rfl, rfl⟩))
    go_ret
    exact ⟨by simp [cmpN, h1], rfl⟩
  · have l1 : (FloatKind.f64.format.order (fl a) (fl b) == some .lt) = false := by rw [l]; simp [h1]
    by_cases h2 : b < a
    · have g1 : (FloatKind.f64.format.order (fl a) (fl b) == some .gt) = true := by rw [g]; simp [h2]
      clear l g
      go_enter Yba.func28, Yba.ntmps28
      go_wp2_with (first | (go_at_call_of 37 (Value.float .f64 (fl a)); refine (isNaN_fl a ha _).mono ?_; rintro e w1 ⟨rfl, rfl⟩) | (go_at_call 37; refine (isNaN_fl b hb _).mono ?_; rintro e w1 ⟨rfl, rfl⟩))
      go_ret
      exact ⟨by simp [cmpN, h1, h2], rfl⟩
    · have g1 : (FloatKind.f64.format.order (fl a) (fl b) == some .gt) = false := by rw [g]; simp [h2]
      clear l g
      go_enter Yba.func28, Yba.ntmps28
      go_wp2_with (first | (go_at_call_of 37 (Value.float .f64 (fl a)); refine (isNaN_fl a ha _).mono ?_; rintro e w1 ⟨rfl, rfl⟩) | (go_at_call 37; refine (isNaN_fl b hb _).mono ?_; rintro e w1 ⟨rfl, rfl⟩))
      go_ret
      exact ⟨by simp [cmpN, h1, h2], rfl⟩

set_option maxRecDepth 100000 in
/-- The closure: the clauses a and b by their bounds. -/
theorem less_any (X : Cx) (G : Good X) (qb a b : Nat) (w : World) (hq : w.cell? ⟨qb, 0, none⟩ = some (.pointer (some ⟨X.wb, 0, none⟩))) (h6 : w.cell? ⟨X.wb, 6, none⟩ = some (.slice (some ⟨X.bb, 0, none⟩) X.m X.m)) (hB : Bnd X w) (ha : a < X.m) (hb : b < X.m) :
    Calls Yba.prog 27 #[.int .i64 a, .int .i64 b, .pointer (some ⟨qb, 0, none⟩)] w fun e w' => e = .returned (.int .i64 (cmpN (X.boost a * 1000) (X.boost b * 1000))) ∧ ∃ q, w' = w.drewN q := by
  have b1 := hB a ha
  have b2 := hB b hb
  have hai : (a : Int) < (X.m : Int) := by omega
  have hbi : (b : Int) < (X.m : Int) := by omega
  have x1 : X.boost a * 1000 < 100000 := by rw [G.bo]; split <;> omega
  have x2 : X.boost b * 1000 < 100000 := by rw [G.bo]; split <;> omega
  clear hB
  go_enter Yba.func27, Yba.ntmps27
  go_wp2
  go_quiet ((go_at_call 28; refine Calls.quiet_of_same ((compare_fl _ _ x1 x2 _).mono (fun e w' h => ⟨h.1, h.2.symm⟩))))
  go_wp2
  go_ret
  exact ⟨rfl, _, rfl⟩

/-- The order's block holds the clauses in order; the closure's and the bounds' cells. -/
structure SortAt (X : Cx) (qb : Nat) (w : World) : Prop where
  q : w.cell? ⟨qb, 0, none⟩ = some (.pointer (some ⟨X.wb, 0, none⟩))
  b : w.cell? ⟨X.wb, 6, none⟩ = some (.slice (some ⟨X.bb, 0, none⟩) X.m X.m)
  bn : Bnd X w
  o : Ord X w
theorem SortAt.drewN {X : Cx} {qb : Nat} {w : World} (h : SortAt X qb w) (n : Nat) : SortAt X qb (w.drewN n) :=
  ⟨(grown_drewN w n).cell h.q (by simp), (grown_drewN w n).cell h.b (by simp), fun t ht => (grown_drewN w n).cell (h.bn t ht) (by simp), fun t ht => (grown_drewN w n).cell (h.o t ht) (by simp)⟩

theorem goes27 (args : Array Value) (w : World) : (callFunc 27 args).run Yba.prog w = .ok (.enter 27 args) w := by kernel_rfl

set_option maxHeartbeats 1600000 in
set_option maxRecDepth 100000 in
theorem insert_ints (X : Cx) (G : Good X) (qb cap : Nat) (w : World) (h : SortAt X qb w) :
    Calls Yba.prog 40 #[.slice (some ⟨X.rb, 0, none⟩) X.m cap, .int .i64 0, .int .i64 X.m, .func (.func 27) #[] #[.pointer (some ⟨qb, 0, none⟩)]] w fun e w' => e = .returned (.tuple #[]) ∧ ∃ q, w' = w.drewN q := by
  have HH : Hid (SortAt X qb w) := h
  have hm := G.m2
  have hm0 := G.m0
  have hgo := goes27
  clear h
  go_enter Yba.func40, Yba.ntmps40
  go_wp2
  go_loopw [8] (fun vi wr => ∃ i : Nat, vi = .int .i64 i ∧ 1 ≤ i ∧ i ≤ X.m ∧ SortAt X qb wr ∧ ∃ q, wr = w.drewN q) (fun vi _ => X.m - (intOf vi).toNat)
  case atStart => exact ⟨1, rfl, Nat.le_refl _, by omega, HH.out, 0, rfl⟩
  case round =>
    obtain ⟨i, rfl, hi1, hi, hS, hq⟩ := hrel
    have HS : Hid (SortAt X qb wr ∧ ∃ q, wr = w.drewN q) := ⟨hS, hq⟩
    clear hS hq
    by_cases him : i < X.m
    · have hii : (i : Int) < (X.m : Int) := by omega
      have h0 : decide ((0 : Int) < (i : Int)) = true := by simp; omega
      obtain ⟨j, hj⟩ : ∃ j : Nat, (i : Int) - 1 = (j : Int) := ⟨i - 1, by omega⟩
      have hjm : (j : Int) < (X.m : Int) := by omega
      have o1 := HS.out.1.o i him
      have o2 := HS.out.1.o j (by omega)
      have hr : decide (cmpN (X.boost i * 1000) (X.boost j * 1000) < 0) = false := by
        have : i = 1 := by omega
        have : j = 0 := by omega
        subst i; subst j
        unfold cmpN
        rw [G.bo, G.bo]; decide
      have h0n : 0 < i := by omega
      have hwj : IntKind.i64.wrap (j : Int) = (j : Int) := IntWalk.i64_in _ (by omega)
      have HJ : Hid (j < X.m) := show j < X.m by omega
      go_wp2
      go_loopw [9] (fun vj wy => vj = .int .i64 (i : Int) ∧ wr = wy) (fun _ _ => 0)
      case atStart => exact ⟨rfl, rfl⟩
      case round =>
        obtain ⟨rfl, rfl⟩ := hrel
        go_wp2
        go_quiet ((go_at_call 27; refine Calls.quiet_of (less_any X G qb i j _ (HS.out.1.drewN _).q (HS.out.1.drewN _).b (HS.out.1.drewN _).bn him HJ.out)))
        go_wp2
        go_roundw
        case measure => simp [intOf]; omega
        case rel =>
          obtain ⟨q, hq⟩ := HS.out.2
          exact ⟨i + 1, rfl, by omega, by omega, HS.out.1.drewN _, q + nq, by rw [hq, World.drewN_drewN]⟩
    · have hii : ¬ (i : Int) < (X.m : Int) := by omega
      go_wp2
      go_end0
      exact ⟨rfl, HS.out.2⟩

set_option maxHeartbeats 1600000 in
set_option maxRecDepth 100000 in
theorem stable_ints (X : Cx) (G : Good X) (qb cap : Nat) (w : World) (h : SortAt X qb w) :
    Calls Yba.prog 36 #[.slice (some ⟨X.rb, 0, none⟩) X.m cap, .int .i64 X.m, .func (.func 27) #[] #[.pointer (some ⟨qb, 0, none⟩)]] w fun e w' => e = .returned (.tuple #[]) ∧ ∃ q, w' = w.drewN q := by
  have HH : Hid (SortAt X qb w) := h
  have hm := G.m2
  have hm0 := G.m0
  have h20 : ¬ (20 : Int) ≤ (X.m : Int) := by omega
  have h21 : ¬ (20 : Int) < (X.m : Int) := by omega
  clear h
  go_enter Yba.func36, Yba.ntmps36
  go_wp2
  go_loopw [7, 8] (fun va vb wr => va = .int .i64 0 ∧ vb = .int .i64 20 ∧ w = wr) (fun _ _ _ => 0)
  case atStart => exact ⟨rfl, rfl, rfl⟩
  case round =>
    obtain ⟨rfl, rfl, rfl⟩ := hrel
    go_wp2_with (go_at_call 40; refine (insert_ints X G qb cap w HH.out).mono ?_; rintro z w1 ⟨rfl, q, rfl⟩)
    go_loopw [6, 7, 8] (fun vc va vb wr => vc = .int .i64 20 ∧ w.drewN q = wr) (fun _ _ _ _ => 0)
    case atStart => exact ⟨rfl, rfl⟩
    case round =>
      obtain ⟨rfl, rfl⟩ := hrel
      go_wp2
      go_end0
      exact ⟨rfl, q, rfl⟩

set_option maxRecDepth 100000 in
theorem sort_ints (X : Cx) (G : Good X) (qb cap : Nat) (w : World) (h : SortAt X qb w) :
    Calls Yba.prog 26 #[.slice (some ⟨X.rb, 0, none⟩) X.m cap, .func (.func 27) #[] #[.pointer (some ⟨qb, 0, none⟩)]] w fun e w' => e = .returned (.tuple #[]) ∧ ∃ q, w' = w.drewN q := by
  have HH : Hid (SortAt X qb w) := h
  clear h
  go_enter Yba.func26, Yba.ntmps26
  go_wp2_with (go_at_call 36; refine (stable_ints X G qb cap w HH.out).mono ?_; rintro z w1 ⟨rfl, q, rfl⟩)
  go_end0
  exact ⟨rfl, q, rfl⟩
end Go.Proofs.Ybulkchng
