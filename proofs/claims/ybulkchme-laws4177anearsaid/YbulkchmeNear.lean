/-
  ring.LawS4177ANear, walked.
-/
import Derived.Test.YbulkchmeArr
import Derived.Laws.BitsAllLaws
namespace Go.Proofs.Ybulkchme
open Go.RowKit

/-! ### Plain -/
theorem xor_byte (a d : Int) (ha : 0 ≤ a ∧ a < 256) (hd : 0 ≤ d ∧ d < 256) : (0 ≤ bits .xor .u8 a d ∧ bits .xor .u8 a d < 256) ∧ (bits .xor .u8 a d = a ↔ d = 0) := by
  rw [u8_xor a d ha.1 ha.2 hd.1 hd.2]
  have hx : a.toNat ^^^ d.toNat < 2 ^ 8 := Nat.xor_lt_two_pow (by omega) (by omega)
  refine ⟨⟨by omega, by omega⟩, ?_⟩
  constructor
  · intro h
    have e : a.toNat ^^^ d.toNat = a.toNat := by omega
    have e2 : a.toNat ^^^ (a.toNat ^^^ d.toNat) = a.toNat ^^^ a.toNat := by rw [e]
    rw [← Nat.xor_assoc, Nat.xor_self, Nat.zero_xor] at e2
    omega
  · intro h
    subst h
    simp
    omega

/-- z with the byte at place r exchanged for v. -/
def put (z : Nat → Int) (r : Nat) (v : Int) : Nat → Int := fun j => if j = r then v else z j
theorem put_bytes {z : Nat → Int} (hz : Bytes z) (r : Nat) {v : Int} (hv : 0 ≤ v ∧ v < 256) : Bytes (put z r v) := fun j => by
  unfold put; split
  · exact hv
  · exact hz j
theorem put_same {z : Nat → Int} (r : Nat) (hr : r < 20) (v : Int) : same20 z (put z r v) = decide (v = z r) := by
  rw [Bool.eq_iff_iff, same20_iff]
  simp only [decide_eq_true_eq]
  constructor
  · intro h; have := h r hr; simpa [put] using this.symm
  · intro h j hj
    unfold put; split
    · rename_i e; rw [e, h]
    · rfl
theorem same20_comm (x y : Nat → Int) : same20 x y = same20 y x := by
  rw [Bool.eq_iff_iff, same20_iff, same20_iff]
  exact ⟨fun h j hj => (h j hj).symm, fun h j hj => (h j hj).symm⟩
theorem same20_self (x : Nat → Int) : same20 x x = true := same20_iff.2 fun _ _ => rfl

set_option maxHeartbeats 1600000 in
set_option maxRecDepth 100000 in
theorem near_core (z : Nat → Int) (hz : Bytes z) (pos d v : Int) (r : Nat) (b : Bool) (hp0 : 0 ≤ pos) (hp1 : pos ≤ 255) (hr : (pos % 20).toNat = r) (hr20 : r < 20)
    (hv : bits .xor .u8 (z r) d = v) (hy : Bytes (put z r v)) (hb : (d == 0) = b) (hsm : same20 z (put z r v) = b) (w : World) :
    Calls Yba.prog 4 #[.agg (arr z), .int .u8 pos, .int .u8 d] w fun e w' => e = .returned (.bool true) ∧ Below w.heap.size w w' := by
  have hcr : (arr z)[r]? = some (.int .u8 (z r)) := arr_at z r hr20
  obtain ⟨y, hyd⟩ : ∃ y, put z r v = y := ⟨_, rfl⟩
  have hset : (arr z).setIfInBounds r (.int .u8 v) = arr y := (arr_set z r v hr20).trans (by rw [← hyd]; rfl)
  rw [hyd] at hy hsm
  clear hyd
  have HSM : Hid (same20 z y = b) := hsm
  clear hsm
  have hq : ∀ (u : Nat → Int) (w : World), (binOp .eql 23 (.agg (arr u)) (.agg (arr u))).run Yba.prog w = .ok (.bool true) w := eql_self
  go_enter Yba.func4, Yba.ntmps4
  go_wp2_with (first
    | (refine wpList_load_row rfl 22 _ rfl w.heap.size rfl 22 (arr z) (0, 0) _ (heap_alloc_new w _) Yba.underlying22 rfl (info22 z) ?_)
    | (refine store_new rfl 23 (.tmp 7) (.tmp 13) rfl (w.alloc (.cells (arr z) 22)) (w.heap.size + 1) _ (arr z) 23 rfl rfl (by rfl) (by simp) (info23 z) (by rw [arr_size]; rfl) (arr_one z) ?_)
    | (refine wpList_load_row rfl 23 (.tmp 7) rfl (w.heap.size + 1) rfl 23 (arr z) (0, 0) _ (by first | exact blk_new (by simp) | exact blk_old (blk_new (by simp))) Yba.underlying23 rfl (info23 z) ?_)
    | (refine store_new rfl 23 (.tmp 8) (.tmp 14) rfl ((w.alloc (.cells (arr z) 22)).alloc (.cells (arr z) 23)) (w.heap.size + 2) _ (arr z) 23 rfl rfl (by rfl) (by simp) (info23 z) (by rw [arr_size]; rfl) (arr_one z) ?_)
    | (refine store_new rfl 23 (.tmp 10) (.tmp 24) rfl (((w.alloc (.cells (arr z) 22)).alloc (.cells (arr z) 23)).alloc (.cells (arr y) 23)) (w.heap.size + 3) _ (arr z) 23 rfl rfl (by rfl) (by simp) (info23 z) (by rw [arr_size]; rfl) (arr_one z) ?_)
    | (refine wpList_load_row rfl 23 (.tmp 8) rfl (w.heap.size + 2) rfl 23 (arr y) (0, 0) _ (blk_old (blk_new (by simp))) Yba.underlying23 rfl (info23 y) ?_)
    | (refine store_new rfl 23 (.tmp 11) (.tmp 25) rfl ((((w.alloc (.cells (arr z) 22)).alloc (.cells (arr z) 23)).alloc (.cells (arr y) 23)).alloc (.cells (arr z) 23)) (w.heap.size + 4) _ (arr y) 23 rfl rfl (by rfl) (by simp) (info23 y) (by rw [arr_size]; rfl) (arr_one y) ?_))
  have f1 : (((((w.alloc (.cells (arr z) 22)).alloc (.cells (arr z) 23)).alloc (.cells (arr y) 23)).alloc (.cells (arr z) 23)).alloc (.cells (arr y) 23)).heap[w.heap.size + 1]? = some (.cells (arr z) 23) := blk_old (blk_old (blk_old (blk_new (by simp))))
  have f2 : (((((w.alloc (.cells (arr z) 22)).alloc (.cells (arr z) 23)).alloc (.cells (arr y) 23)).alloc (.cells (arr z) 23)).alloc (.cells (arr y) 23)).heap[w.heap.size + 1 + 1]? = some (.cells (arr y) 23) := blk_old (blk_old (blk_new (by simp)))
  have f3 : (((((w.alloc (.cells (arr z) 22)).alloc (.cells (arr z) 23)).alloc (.cells (arr y) 23)).alloc (.cells (arr z) 23)).alloc (.cells (arr y) 23)).heap[w.heap.size + 1 + 1 + 1]? = some (.cells (arr z) 23) := blk_old (blk_new (by simp))
  have f4 : (((((w.alloc (.cells (arr z) 22)).alloc (.cells (arr z) 23)).alloc (.cells (arr y) 23)).alloc (.cells (arr z) 23)).alloc (.cells (arr y) 23)).heap[w.heap.size + 1 + 1 + 1 + 1]? = some (.cells (arr y) 23) := blk_new (by simp)
  have hB : Below w.heap.size w (((((w.alloc (.cells (arr z) 22)).alloc (.cells (arr z) 23)).alloc (.cells (arr y) 23)).alloc (.cells (arr z) 23)).alloc (.cells (arr y) 23)) := by
    refine ((((Below.refl _ _).alloc (Nat.le_refl _) _).alloc ?_ _).alloc ?_ _).alloc ?_ _ |>.alloc ?_ _ <;> simp <;> omega
  refine (equal_any (Twenty.of_block f1) (Twenty.of_block f2) hz hy).mono ?_
  rintro e w1 ⟨rfl, hb1⟩
  rw [HSM.out]
  have g1 := blk_below hb1 f1
  have g2 := blk_below hb1 f2
  have g3 := blk_below hb1 f3
  have g4 := blk_below hb1 f4
  have hB1 : Below w.heap.size w w1 := hB.trans (hb1.mono hB.size)
  clear f1 f2 f3 f4 hb1 hB
  have GS : Hid (w1.heap[w.heap.size + 1]? = some (.cells (arr z) 23) ∧ w1.heap[w.heap.size + 1 + 1]? = some (.cells (arr y) 23) ∧ w1.heap[w.heap.size + 1 + 1 + 1]? = some (.cells (arr z) 23) ∧ w1.heap[w.heap.size + 1 + 1 + 1 + 1]? = some (.cells (arr y) 23)) := ⟨g1, g2, g3, g4⟩
  clear g1 g2 g3 g4
  go_wp2_with fail
  refine (equal_any (Twenty.of_block GS.out.2.1) (Twenty.of_block GS.out.1) hy hz).mono ?_
  rintro e w2 ⟨rfl, hb2⟩
  rw [same20_comm, HSM.out]
  have g1 := blk_below hb2 GS.out.1
  have g2 := blk_below hb2 GS.out.2.1
  have g3 := blk_below hb2 GS.out.2.2.1
  have g4 := blk_below hb2 GS.out.2.2.2
  have hB2 : Below w.heap.size w w2 := hB1.trans (hb2.mono hB1.size)
  clear hb2 GS hB1
  go_wp2_with (first
    | (refine wpList_load_row rfl 23 (.tmp 7) rfl (w.heap.size + 1) rfl 23 (arr z) (0, 0) _ g1 Yba.underlying23 rfl (info23 z) ?_)
    | (refine wpList_load_row rfl 23 (.tmp 10) rfl (w.heap.size + 1 + 1 + 1) rfl 23 (arr z) (0, 0) _ g3 Yba.underlying23 rfl (info23 z) ?_)
    | (refine load_want rfl 23 (.tmp 8) rfl (w.heap.size + 1 + 1) rfl 23 (arr y) (0, 0) _ g2 Yba.underlying23 rfl (info23 y) ?_)
    | (refine load_want rfl 23 (.tmp 11) rfl (w.heap.size + 1 + 1 + 1 + 1) rfl 23 (arr y) (0, 0) _ g4 Yba.underlying23 rfl (info23 y) ?_))
  go_ret
  exact ⟨rfl, hB2⟩

theorem near_walk (z : Nat → Int) (hz : Bytes z) (pos d : Int) (hp : 0 ≤ pos ∧ pos ≤ 255) (hd : 0 ≤ d ∧ d ≤ 255) (w : World) :
    Calls Yba.prog 4 #[.agg (arr z), .int .u8 pos, .int .u8 d] w fun e w' => e = .returned (.bool true) ∧ Below w.heap.size w w' := by
  have hr20 : (pos % 20).toNat < 20 := by omega
  have hx := xor_byte (z (pos % 20).toNat) d (hz _) ⟨hd.1, by omega⟩
  refine near_core z hz pos d _ _ _ hp.1 hp.2 rfl hr20 rfl (put_bytes hz _ hx.1) rfl ?_ w
  rw [put_same _ hr20]
  rw [Bool.eq_iff_iff]
  simpa using hx.2
end Go.Proofs.Ybulkchme
