/-
  Walks for 'Rows.LawS4176CShapeSaid'.
-/
import Derived.Test.YbulkchlqRows
import Derived.WalkKit
import Derived.WalkSpells
import Derived.Below
import Derived.Deep.QuietTactic
import Derived.BigQuiet
import Derived.Lib.SliceRun
import Derived.LaidEqlPtr
namespace Go.Proofs.Ybulkchlq.lawS4176CShape
open Go.RowKit

/-- (Value).List at an empty slice. -/
theorem list_empty (a : Option Addr) (cap : Nat) (w : World) :
    Calls Yba.prog 5 #[.slice a 0 cap] w fun e w' => e = .returned (.tuple #[.slice none 0 0, .bool false]) ∧ w = w' := by
  go_enter Yba.func5, Yba.ntmps5
  go_wp2
  go_ret2
  exact ⟨rfl, rfl⟩

/-- (Value).List at a slice whose first byte is no 'l'. -/
theorem list_no (b off len cap : Nat) (x : Int) (w : World) (hl : 0 < len) (hc : w.cell? ⟨b, off, none⟩ = some (.int .u8 x)) (hx : (x != 108) = true) :
    Calls Yba.prog 5 #[.slice (some ⟨b, off, none⟩) len cap] w fun e w' => e = .returned (.tuple #[.slice none 0 0, .bool false]) ∧ w = w' := by
  have h0 : ((len : Int) == 0) = false := by simp; omega
  go_enter Yba.func5, Yba.ntmps5
  go_wp2
  go_ret2
  exact ⟨rfl, rfl⟩

/-- (Value).List at a slice whose first byte is 'l'. -/
theorem list_yes (b off len cap : Nat) (w : World) (hl : 0 < len) (hc : w.cell? ⟨b, off, none⟩ = some (.int .u8 108)) :
    Calls Yba.prog 5 #[.slice (some ⟨b, off, none⟩) len cap] w fun e w' => e = .returned (.tuple #[.slice (some ⟨b, off, none⟩) len cap, .bool true]) ∧ w = w' := by
  have h0 : ((len : Int) == 0) = false := by simp; omega
  go_enter Yba.func5, Yba.ntmps5
  go_wp2
  go_ret2
  exact ⟨rfl, rfl⟩

/-- More than 4096 bytes. -/
theorem walk_big (a : Option Addr) (len cap : Nat) (w : World) (hl : 4096 < len) :
    Calls Yba.prog 3 #[.slice a len cap] w fun e w' => e = .returned (.bool true) ∧ Below w.heap.size w w' := by
  have h0 : (4096 : Int) < (len : Int) := by omega
  go_enter Yba.func3, Yba.ntmps3
  go_wp2_with fail
  go_ret
  exact ⟨rfl, Below.refl _ _⟩

/-- No bytes. -/
theorem walk_empty (a : Option Addr) (cap : Nat) (w : World) :
    Calls Yba.prog 3 #[.slice a 0 cap] w fun e w' => e = .returned (.bool true) ∧ Below w.heap.size w w' := by
  have q23 : ∀ (w : World) (a : Option Addr) (n c n' c' : Nat), (binOp .eql 23 (.slice a n c) (.slice none n' c')).run Yba.prog w = .ok (.bool a.isNone) w := fun w a n c n' c' => Lib.run_eql_slice_nil w _ _ a n c n' c' Yba.underlying23
  go_enter Yba.func3, Yba.ntmps3
  go_wp2_with (go_at_call 5; refine (list_empty _ _ _).mono ?_; rintro e w' ⟨rfl, rfl⟩)
  go_ret
  exact ⟨rfl, Below.refl _ _⟩

/-- The first byte is no 'l'. -/
theorem walk_no (b off len cap : Nat) (x : Int) (w : World) (hl : 0 < len) (h4 : len ≤ 4096) (hc : w.cell? ⟨b, off, none⟩ = some (.int .u8 x)) (hx : (x != 108) = true) :
    Calls Yba.prog 3 #[.slice (some ⟨b, off, none⟩) len cap] w fun e w' => e = .returned (.bool true) ∧ Below w.heap.size w w' := by
  have q23 : ∀ (w : World) (a : Option Addr) (n c n' c' : Nat), (binOp .eql 23 (.slice a n c) (.slice none n' c')).run Yba.prog w = .ok (.bool a.isNone) w := fun w a n c n' c' => Lib.run_eql_slice_nil w _ _ a n c n' c' Yba.underlying23
  have h0 : (0 : Int) < (len : Int) := by omega
  have h1 : (x == 108) = false := by simpa using hx
  go_enter Yba.func3, Yba.ntmps3
  go_wp2_with (go_at_call 5; refine (list_no b off len cap x _ hl hc hx).mono ?_; rintro e w' ⟨rfl, rfl⟩)
  go_ret
  exact ⟨rfl, Below.refl _ _⟩

set_option maxHeartbeats 400000 in
/-- The first byte is 'l'. -/
theorem walk_yes (b off len cap : Nat) (zs : List Int) (w : World) (hl : 0 < len) (h4 : len ≤ 4096) (hz : len ≤ zs.length)
    (hc : ∀ i, i < zs.length → w.cell? ⟨b, off + i, none⟩ = some (.int .u8 (zs.getD i 0))) (hx : zs.getD 0 0 = 108) :
    Calls Yba.prog 3 #[.slice (some ⟨b, off, none⟩) len cap] w fun e w' => e = .returned (.bool true) ∧ Below w.heap.size w w' := by
  have h0 : (0 : Int) < (len : Int) := by omega
  have hc0 : w.cell? ⟨b, off, none⟩ = some (.int .u8 108) := by have := hc 0 (by omega); rw [hx] at this; simpa using this
  have HC : Hid (∀ i, i < zs.length → w.cell? ⟨b, off + i, none⟩ = some (.int .u8 (zs.getD i 0))) := hc
  clear hc hx
  obtain ⟨j, hj⟩ : ∃ j, Yba.prog.info? 5 = some j := Option.isSome_iff_exists.1 (by kernel_rfl)
  have q27 : ∀ (w : World) (a : Addr), (binOp .eql 27 (.pointer (some a)) (.pointer (some a))).run Yba.prog w = .ok (.bool true) w := fun w a => run_eql_ptr_same w a Yba.underlying27 hj
  clear hj
  go_enter Yba.func3, Yba.ntmps3
  go_wp2_with (go_at_call 5; refine (list_yes b off len cap _ hl hc0).mono ?_; rintro e w' ⟨rfl, rfl⟩)
  go_loopw [6] (fun i wr => ∃ k nq : Nat, k ≤ len ∧ i = .int .i64 k ∧ wr = w.drewN nq) (fun i _ => len - (intOf i).toNat)
  case atStart => exact ⟨0, 0, Nat.zero_le _, rfl, rfl⟩
  case round =>
    obtain ⟨k, nq, hk, rfl, rfl⟩ := hrel
    by_cases hlt : k < len
    · have hck := HC.out k (by omega)
      have hk0 : (k : Int) < (len : Int) := by omega
      go_wp2
      go_quiet (fail)
      go_wp2
      go_roundw
      case rel => exact ⟨k + 1, _, by omega, by go_num, rfl⟩
      case measure => simp [intOf]; omega
    · go_wp2
      go_quiet (fail)
      go_wp2
      go_ret
      exact ⟨rfl, ((Below.refl _ _).trans ⟨rfl, rfl, rfl, Nat.le_refl _, fun _ _ => rfl⟩)⟩
end Go.Proofs.Ybulkchlq.lawS4176CShape
