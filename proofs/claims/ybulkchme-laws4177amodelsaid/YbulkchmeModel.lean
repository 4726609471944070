/-
  ring.LawS4177AModel, walked.
-/
import Derived.Test.YbulkchmeArr
namespace Go.Proofs.Ybulkchme.lawS4177AModel
open Go.RowKit

theorem same20_comm (x y : Nat → Int) : same20 x y = same20 y x := by
  rw [Bool.eq_iff_iff, same20_iff, same20_iff]
  exact ⟨fun h j hj => (h j hj).symm, fun h j hj => (h j hj).symm⟩
theorem same20_self (x : Nat → Int) : same20 x x = true := same20_iff.2 fun _ _ => rfl

set_option maxHeartbeats 800000 in
/-- zzs4177asame: do all twenty bytes agree? -/
theorem same_any {w : World} {bx ox bt ot : Nat} {x y : Nat → Int} (hx : Twenty w bx ox x) (hy : Twenty w bt ot y) :
    Calls Yba.prog 6 #[.pointer (some ⟨bx, ox, none⟩), .pointer (some ⟨bt, ot, none⟩)] w fun e w' => e = .returned (.bool (same20 x y)) ∧ ∃ q, w' = w.drewN q := by
  have HX : Hid (Twenty w bx ox x) := hx
  have HY : Hid (Twenty w bt ot y) := hy
  clear hx hy
  go_enter Yba.func6, Yba.ntmps6
  go_wp2
  go_loopw [5] (fun i wr => ∃ k nq : Nat, k ≤ 20 ∧ i = .int .i64 k ∧ (∀ j, j < k → x j = y j) ∧ wr = w.drewN nq) (fun i _ => 20 - (intOf i).toNat)
  case atStart => exact ⟨0, 0, Nat.zero_le _, rfl, fun j h => by omega, rfl⟩
  case round =>
    obtain ⟨k, nq, hk, rfl, hall, rfl⟩ := hrel
    have HA : Hid (∀ j, j < k → x j = y j) := hall
    clear hall
    by_cases hlt : k < 20
    · have hcx := HX.out k hlt
      have hcy := HY.out k hlt
      have hk0 : (k : Int) < 20 := by omega
      by_cases he : x k = y k
      · have hne : (x k != y k) = false := by simp [he]
        have HE : Hid (x k = y k) := he
        clear he
        go_wp2
        go_quiet (fail)
        go_wp2
        go_roundw
        case rel => exact ⟨k + 1, _, by omega, by go_num, fun j hj => by
          by_cases e : j = k
          · rw [e]; exact HE.out
          · exact HA.out j (by omega), rfl⟩
        case measure => simp [intOf]; omega
      · have hne : (x k != y k) = true := by simp [he]
        have hs : same20 x y = false := by
          rw [Bool.eq_false_iff]; intro h; exact he (same20_iff.1 h k hlt)
        have HS : Hid (same20 x y = false) := hs
        clear he hs
        go_wp2
        go_quiet (fail)
        go_wp2
        go_ret
        exact ⟨by rw [HS.out]; rfl, _, World.drewN_drewN _ _ _⟩
    · have hs : same20 x y = true := same20_iff.2 fun j hj => HA.out j (by omega)
      have HS : Hid (same20 x y = true) := hs
      clear hs
      go_wp2
      go_ret
      exact ⟨by rw [HS.out]; rfl, _, rfl⟩

/-- What the law knows of a world behind its calls. -/
def Holds (w : World) (n : Nat) (x y : Nat → Int) (w' : World) : Prop :=
  w'.heap[n + 1 + 1]? = some (.cells (arr x) 23) ∧ w'.heap[n + 1 + 1 + 1]? = some (.cells (arr y) 23) ∧ Below w.heap.size w w'

theorem Holds.below {w : World} {n : Nat} {x y : Nat → Int} {w1 w2 : World} (h : Holds w n x y w1) (hb : Below w1.heap.size w1 w2) : Holds w n x y w2 :=
  ⟨blk_below hb h.1, blk_below hb h.2.1, h.2.2.trans (hb.mono h.2.2.size)⟩
theorem Holds.drawn {w : World} {n : Nat} {x y : Nat → Int} {w1 : World} (h : Holds w n x y w1) (q : Nat) : Holds w n x y (w1.drewN q) :=
  ⟨h.1, h.2.1, h.2.2.trans ⟨rfl, rfl, rfl, Nat.le_refl _, fun _ _ => rfl⟩⟩

set_option maxHeartbeats 1600000 in
set_option maxRecDepth 100000 in
theorem model_walk (x y : Nat → Int) (hx : Bytes x) (hy : Bytes y) (w : World) :
    Calls Yba.prog 3 #[.agg (arr x), .agg (arr y)] w fun e w' => e = .returned (.bool true) ∧ Below w.heap.size w w' := by
  go_enter Yba.func3, Yba.ntmps3
  go_wp2_with (first
    | (refine wpList_load_row rfl 22 (.tmp 2) rfl w.heap.size rfl 22 (arr x) (0, 0) _ (blk_old (blk_new (by simp))) Yba.underlying22 rfl (info22 x) ?_)
    | (refine store_new rfl 23 (.tmp 5) (.tmp 7) rfl ((w.alloc (.cells (arr x) 22)).alloc (.cells (arr y) 22)) (w.heap.size + 1 + 1) _ (arr x) 23 rfl rfl (by rfl) (by simp) (info23 x) (by rw [arr_size]; rfl) (arr_one x) ?_)
    | (refine wpList_load_row rfl 22 (.tmp 3) rfl (w.heap.size + 1) rfl 22 (arr y) (0, 0) _ (blk_old (blk_new (by simp))) Yba.underlying22 rfl (info22 y) ?_)
    | (refine store_new rfl 23 (.tmp 6) (.tmp 8) rfl (((w.alloc (.cells (arr x) 22)).alloc (.cells (arr y) 22)).alloc (.cells (arr x) 23)) (w.heap.size + 1 + 1 + 1) _ (arr y) 23 rfl rfl (by rfl) (by simp) (info23 y) (by rw [arr_size]; rfl) (arr_one y) ?_))
  have H0 : Holds w w.heap.size x y ((((w.alloc (.cells (arr x) 22)).alloc (.cells (arr y) 22)).alloc (.cells (arr x) 23)).alloc (.cells (arr y) 23)) := by
    refine ⟨blk_old (blk_new (by simp)), blk_new (by simp), ?_⟩
    refine (((Below.refl _ _).alloc (Nat.le_refl _) _).alloc ?_ _).alloc ?_ _ |>.alloc ?_ _ <;> simp <;> omega
  refine (equal_any (Twenty.of_block H0.1) (Twenty.of_block H0.2.1) hx hy).mono ?_
  rintro e w1 ⟨rfl, hb1⟩
  have H1 := H0.below hb1
  clear hb1 H0
  go_wp2_with fail
  refine (same_any (Twenty.of_block H1.1) (Twenty.of_block H1.2.1)).mono ?_
  rintro e w2 ⟨rfl, q2, hw2⟩
  have H2 := H1.drawn q2
  rw [← hw2] at H2
  clear hw2 H1
  obtain ⟨b, hb⟩ : ∃ b, same20 x y = b := ⟨_, rfl⟩
  have HB : Hid (same20 x y = b) := hb
  rw [hb]
  clear hb
  go_wp2_with fail
  refine (equal_any (Twenty.of_block H2.2.1) (Twenty.of_block H2.1) hy hx).mono ?_
  rintro e w3 ⟨rfl, hb3⟩
  have H3 := H2.below hb3
  clear hb3 H2
  go_wp2_with fail
  refine (same_any (Twenty.of_block H3.1) (Twenty.of_block H3.2.1)).mono ?_
  rintro e w4 ⟨rfl, q4, hw4⟩
  have H4 := H3.drawn q4
  rw [← hw4] at H4
  clear hw4 H3
  rw [same20_comm y x, HB.out]
  clear HB
  go_wp2_with fail
  refine (equal_any (Twenty.of_block H4.1) (Twenty.of_block H4.1) hx hx).mono ?_
  rintro e w5 ⟨rfl, hb5⟩
  have H5 := H4.below hb5
  clear hb5 H4
  rw [same20_self]
  go_wp2_with fail
  refine (equal_any (Twenty.of_block H5.2.1) (Twenty.of_block H5.2.1) hy hy).mono ?_
  rintro e w6 ⟨rfl, hb6⟩
  have H6 := H5.below hb6
  clear hb6 H5
  rw [same20_self]
  go_wp2_with fail
  go_ret
  exact ⟨rfl, H6.2.2⟩
end Go.Proofs.Ybulkchme.lawS4177AModel
