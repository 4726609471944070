/-
  The two little-endian readers of encoding/binary, over this program, by their cells.
-/
import Derived.Test.YbulkchmeRows
import Derived.WalkKit
import Derived.WalkSpells
import Derived.Below
import Derived.Lib.EndianBits
import Derived.Deep.QuietTactic
import Derived.BigQuiet
namespace Go.Proofs.Ybulkchme
open Go.RowKit

theorem old_cell {w : World} {o : Obj} {a : Addr} {v : Value} (h : w.cell? a = some v) : (w.alloc o).cell? a = some v :=
  (World.grownBy_alloc w o none).cell h (by simp)

set_option maxHeartbeats 4000000 in
set_option maxRecDepth 100000 in
theorem uint64_core (g o n c : Nat) (z0 z1 z2 z3 z4 z5 z6 z7 : Int) (w : World) (hn : 8 ≤ n)
    (c0 : w.cell? ⟨g, o, none⟩ = some (.int .u8 z0)) (c1 : w.cell? ⟨g, o + 1, none⟩ = some (.int .u8 z1)) (c2 : w.cell? ⟨g, o + 2, none⟩ = some (.int .u8 z2)) (c3 : w.cell? ⟨g, o + 3, none⟩ = some (.int .u8 z3))
    (c4 : w.cell? ⟨g, o + 4, none⟩ = some (.int .u8 z4)) (c5 : w.cell? ⟨g, o + 5, none⟩ = some (.int .u8 z5)) (c6 : w.cell? ⟨g, o + 6, none⟩ = some (.int .u8 z6)) (c7 : w.cell? ⟨g, o + 7, none⟩ = some (.int .u8 z7))
    (h0 : 0 ≤ z0 ∧ z0 < 256) (h1 : 0 ≤ z1 ∧ z1 < 256) (h2 : 0 ≤ z2 ∧ z2 < 256) (h3 : 0 ≤ z3 ∧ z3 < 256) (h4 : 0 ≤ z4 ∧ z4 < 256) (h5 : 0 ≤ z5 ∧ z5 < 256) (h6 : 0 ≤ z6 ∧ z6 < 256) (h7 : 0 ≤ z7 ∧ z7 < 256) :
    Calls Yba.prog 7 #[.agg #[], .slice (some ⟨g, o, none⟩) n c] w fun e w' =>
      e = .returned (.int .u64 (z0 + z1 * 256 + z2 * 65536 + z3 * 16777216 + z4 * 4294967296 + z5 * 1099511627776 + z6 * 281474976710656 + z7 * 72057594037927936)) ∧ ∃ q, w' = (w.alloc (.cells #[] 31)).drewN q := by
  obtain ⟨h0, k0⟩ := h0
  obtain ⟨h1, k1⟩ := h1
  obtain ⟨h2, k2⟩ := h2
  obtain ⟨h3, k3⟩ := h3
  obtain ⟨h4, k4⟩ := h4
  obtain ⟨h5, k5⟩ := h5
  obtain ⟨h6, k6⟩ := h6
  obtain ⟨h7, k7⟩ := h7
  have d0 := old_cell (o := .cells #[] 31) c0
  have d1 := old_cell (o := .cells #[] 31) c1
  have d2 := old_cell (o := .cells #[] 31) c2
  have d3 := old_cell (o := .cells #[] 31) c3
  have d4 := old_cell (o := .cells #[] 31) c4
  have d5 := old_cell (o := .cells #[] 31) c5
  have d6 := old_cell (o := .cells #[] 31) c6
  have d7 := old_cell (o := .cells #[] 31) c7
  have q0 : 0 < n := by omega
  have q1 : (1 : Int) < (n : Int) := by omega
  have q2 : (2 : Int) < (n : Int) := by omega
  have q3 : (3 : Int) < (n : Int) := by omega
  have q4 : (4 : Int) < (n : Int) := by omega
  have q5 : (5 : Int) < (n : Int) := by omega
  have q6 : (6 : Int) < (n : Int) := by omega
  have q7 : (7 : Int) < (n : Int) := by omega
  go_enter Yba.func7, Yba.ntmps7
  go_wp2
  go_quiet (fail)
  go_wp2
  go_ret
  refine ⟨?_, _, rfl⟩
  simp (disch := omega) only [u64_or8, u64_or16, u64_or24, u64_or32, u64_or40, u64_or48, u64_or56]
  rfl

set_option maxHeartbeats 4000000 in
set_option maxRecDepth 100000 in
theorem uint32_core (g o n c : Nat) (z0 z1 z2 z3 : Int) (w : World) (hn : 4 ≤ n)
    (c0 : w.cell? ⟨g, o, none⟩ = some (.int .u8 z0)) (c1 : w.cell? ⟨g, o + 1, none⟩ = some (.int .u8 z1)) (c2 : w.cell? ⟨g, o + 2, none⟩ = some (.int .u8 z2)) (c3 : w.cell? ⟨g, o + 3, none⟩ = some (.int .u8 z3))
    (h0 : 0 ≤ z0 ∧ z0 < 256) (h1 : 0 ≤ z1 ∧ z1 < 256) (h2 : 0 ≤ z2 ∧ z2 < 256) (h3 : 0 ≤ z3 ∧ z3 < 256) :
    Calls Yba.prog 8 #[.agg #[], .slice (some ⟨g, o, none⟩) n c] w fun e w' =>
      e = .returned (.int .u32 (z0 + z1 * 256 + z2 * 65536 + z3 * 16777216)) ∧ ∃ q, w' = (w.alloc (.cells #[] 31)).drewN q := by
  obtain ⟨h0, k0⟩ := h0
  obtain ⟨h1, k1⟩ := h1
  obtain ⟨h2, k2⟩ := h2
  obtain ⟨h3, k3⟩ := h3
  have d0 := old_cell (o := .cells #[] 31) c0
  have d1 := old_cell (o := .cells #[] 31) c1
  have d2 := old_cell (o := .cells #[] 31) c2
  have d3 := old_cell (o := .cells #[] 31) c3
  have q0 : 0 < n := by omega
  have q1 : (1 : Int) < (n : Int) := by omega
  have q2 : (2 : Int) < (n : Int) := by omega
  have q3 : (3 : Int) < (n : Int) := by omega
  go_enter Yba.func8, Yba.ntmps8
  go_wp2
  go_quiet (fail)
  go_wp2
  go_ret
  refine ⟨?_, _, rfl⟩
  simp (disch := omega) only [u32_or8, u32_or16, u32_or24]
  rfl

/-! ### The same, by an index function -/
/-- The number that the eight bytes from place i on spell, the least first. -/
def le8 (z : Nat → Int) (i : Nat) : Int := z i + z (i + 1) * 256 + z (i + 2) * 65536 + z (i + 3) * 16777216 + z (i + 4) * 4294967296 + z (i + 5) * 1099511627776 + z (i + 6) * 281474976710656 + z (i + 7) * 72057594037927936
/-- The number that the four bytes from place i on spell, the least first. -/
def le4 (z : Nat → Int) (i : Nat) : Int := z i + z (i + 1) * 256 + z (i + 2) * 65536 + z (i + 3) * 16777216

/-- Twenty bytes lie at a place. -/
def Twenty (w : World) (b o : Nat) (z : Nat → Int) : Prop := ∀ j, j < 20 → w.cell? ⟨b, o + j, none⟩ = some (.int .u8 (z j))
/-- Each is a byte. -/
def Bytes (z : Nat → Int) : Prop := ∀ j, 0 ≤ z j ∧ z j < 256

theorem Twenty.at {w : World} {b o : Nat} {z : Nat → Int} (h : Twenty w b o z) (i j : Nat) (hj : i + j < 20) : w.cell? ⟨b, o + i + j, none⟩ = some (.int .u8 (z (i + j))) := by
  rw [Nat.add_assoc]; exact h _ hj

theorem uint64_any {w : World} {b o : Nat} {z : Nat → Int} (n c i : Nat) (h : Twenty w b o z) (hz : Bytes z) (hi : i + 8 ≤ 20) (hn : 8 ≤ n) :
    Calls Yba.prog 7 #[.agg #[], .slice (some ⟨b, o + i, none⟩) n c] w fun e w' => e = .returned (.int .u64 (le8 z i)) ∧ ∃ q, w' = (w.alloc (.cells #[] 31)).drewN q :=
  uint64_core b (o + i) n c _ _ _ _ _ _ _ _ w hn (h i (by omega)) (h.at i 1 (by omega)) (h.at i 2 (by omega)) (h.at i 3 (by omega)) (h.at i 4 (by omega)) (h.at i 5 (by omega)) (h.at i 6 (by omega)) (h.at i 7 (by omega))
    (hz _) (hz _) (hz _) (hz _) (hz _) (hz _) (hz _) (hz _)

theorem uint32_any {w : World} {b o : Nat} {z : Nat → Int} (n c i : Nat) (h : Twenty w b o z) (hz : Bytes z) (hi : i + 4 ≤ 20) (hn : 4 ≤ n) :
    Calls Yba.prog 8 #[.agg #[], .slice (some ⟨b, o + i, none⟩) n c] w fun e w' => e = .returned (.int .u32 (le4 z i)) ∧ ∃ q, w' = (w.alloc (.cells #[] 31)).drewN q :=
  uint32_core b (o + i) n c _ _ _ _ w hn (h i (by omega)) (h.at i 1 (by omega)) (h.at i 2 (by omega)) (h.at i 3 (by omega)) (hz _) (hz _) (hz _) (hz _)

/-! ### Plain: the words agree just where the bytes do -/
theorem le8_inj {x y : Nat → Int} (hx : Bytes x) (hy : Bytes y) (i : Nat) (h : le8 x i = le8 y i) : ∀ j, j < 8 → x (i + j) = y (i + j) := by
  unfold le8 at h
  have a0 := hx i; have a1 := hx (i + 1); have a2 := hx (i + 2); have a3 := hx (i + 3); have a4 := hx (i + 4); have a5 := hx (i + 5); have a6 := hx (i + 6); have a7 := hx (i + 7)
  have b0 := hy i; have b1 := hy (i + 1); have b2 := hy (i + 2); have b3 := hy (i + 3); have b4 := hy (i + 4); have b5 := hy (i + 5); have b6 := hy (i + 6); have b7 := hy (i + 7)
  have e0 : x i = y i := by omega
  have e1 : x (i + 1) = y (i + 1) := by omega
  have e2 : x (i + 2) = y (i + 2) := by omega
  have e3 : x (i + 3) = y (i + 3) := by omega
  have e4 : x (i + 4) = y (i + 4) := by omega
  have e5 : x (i + 5) = y (i + 5) := by omega
  have e6 : x (i + 6) = y (i + 6) := by omega
  have e7 : x (i + 7) = y (i + 7) := by omega
  intro j hj
  match j, hj with
  | 0, _ => exact e0
  | 1, _ => exact e1
  | 2, _ => exact e2
  | 3, _ => exact e3
  | 4, _ => exact e4
  | 5, _ => exact e5
  | 6, _ => exact e6
  | 7, _ => exact e7

theorem le4_inj {x y : Nat → Int} (hx : Bytes x) (hy : Bytes y) (i : Nat) (h : le4 x i = le4 y i) : ∀ j, j < 4 → x (i + j) = y (i + j) := by
  unfold le4 at h
  have a0 := hx i; have a1 := hx (i + 1); have a2 := hx (i + 2); have a3 := hx (i + 3)
  have b0 := hy i; have b1 := hy (i + 1); have b2 := hy (i + 2); have b3 := hy (i + 3)
  have e0 : x i = y i := by omega
  have e1 : x (i + 1) = y (i + 1) := by omega
  have e2 : x (i + 2) = y (i + 2) := by omega
  have e3 : x (i + 3) = y (i + 3) := by omega
  intro j hj
  match j, hj with
  | 0, _ => exact e0
  | 1, _ => exact e1
  | 2, _ => exact e2
  | 3, _ => exact e3

/-- All twenty bytes agree. -/
def same20 (x y : Nat → Int) : Bool := (List.range 20).all fun j => x j == y j
theorem same20_iff {x y : Nat → Int} : same20 x y = true ↔ ∀ j, j < 20 → x j = y j := by simp [same20]

theorem le8_congr {x y : Nat → Int} (i : Nat) (h : ∀ j, j < 8 → x (i + j) = y (i + j)) : le8 x i = le8 y i := by
  unfold le8
  rw [show x i = y i from h 0 (by omega), h 1 (by omega), h 2 (by omega), h 3 (by omega), h 4 (by omega), h 5 (by omega), h 6 (by omega), h 7 (by omega)]
theorem le4_congr {x y : Nat → Int} (i : Nat) (h : ∀ j, j < 4 → x (i + j) = y (i + j)) : le4 x i = le4 y i := by
  unfold le4
  rw [show x i = y i from h 0 (by omega), h 1 (by omega), h 2 (by omega), h 3 (by omega)]

theorem words_same {x y : Nat → Int} (hx : Bytes x) (hy : Bytes y) : same20 x y = ((le8 x 0 == le8 y 0) && (le8 x 8 == le8 y 8) && (le4 x 16 == le4 y 16)) := by
  rw [Bool.eq_iff_iff, same20_iff]
  simp only [Bool.and_eq_true, beq_iff_eq]
  constructor
  · intro h
    exact ⟨⟨le8_congr 0 (fun j hj => h _ (by omega)), le8_congr 8 (fun j hj => h _ (by omega))⟩, le4_congr 16 (fun j hj => h _ (by omega))⟩
  · rintro ⟨⟨h0, h8⟩, h16⟩ j hj
    by_cases j8 : j < 8
    · simpa using le8_inj hx hy 0 h0 j j8
    · by_cases j16 : j < 16
      · have := le8_inj hx hy 8 h8 (j - 8) (by omega)
        rwa [show 8 + (j - 8) = j by omega] at this
      · have := le4_inj hx hy 16 h16 (j - 16) (by omega)
        rwa [show 16 + (j - 16) = j by omega] at this
end Go.Proofs.Ybulkchme
