/-
  Walks for 'Rows.LawS4176CKindsSaid'.
-/
import Derived.Test.YbulkchlqRows
import Derived.WalkKit
import Derived.WalkSpells
import Derived.Below
namespace Go.Proofs.Ybulkchlq.lawS4176CKinds
open Go.RowKit

/-- (Value).List at a slice whose first byte is no 'l'. -/
theorem list_no (b off len cap : Nat) (x : Int) (w : World) (hl : 0 < len) (hc : w.cell? ⟨b, off, none⟩ = some (.int .u8 x)) (hx : (x != 108) = true) :
    Calls Yba.prog 5 #[.slice (some ⟨b, off, none⟩) len cap] w fun e w' => e = .returned (.tuple #[.slice none 0 0, .bool false]) ∧ w = w' := by
  have h0 : ((len : Int) == 0) = false := by simp; omega
  go_enter Yba.func5, Yba.ntmps5
  go_wp2
  go_ret2
  exact ⟨rfl, rfl⟩

/-- (Value).List at a slice whose first byte is 'l'. -/
theorem list_yes (b off len cap : Nat) (w : World) (hl : 0 < len) (hc : w.cell? ⟨b, off, none⟩ = some (.int .u8 108)) :
    Calls Yba.prog 5 #[.slice (some ⟨b, off, none⟩) len cap] w fun e w' => e = .returned (.tuple #[.slice (some ⟨b, off, none⟩) len cap, .bool true]) ∧ w = w' := by
  have h0 : ((len : Int) == 0) = false := by simp; omega
  go_enter Yba.func5, Yba.ntmps5
  go_wp2
  go_ret2
  exact ⟨rfl, rfl⟩

/-- (Value).Dict at a slice whose first byte is no 'd'. -/
theorem dict_no (b off len cap : Nat) (x : Int) (w : World) (hl : 0 < len) (hc : w.cell? ⟨b, off, none⟩ = some (.int .u8 x)) (hx : (x != 100) = true) :
    Calls Yba.prog 6 #[.slice (some ⟨b, off, none⟩) len cap] w fun e w' => e = .returned (.tuple #[.slice none 0 0, .bool false]) ∧ w = w' := by
  have h0 : ((len : Int) == 0) = false := by simp; omega
  go_enter Yba.func6, Yba.ntmps6
  go_wp2
  go_ret2
  exact ⟨rfl, rfl⟩

/-- (Value).Dict at a slice whose first byte is 'd'. -/
theorem dict_yes (b off len cap : Nat) (w : World) (hl : 0 < len) (hc : w.cell? ⟨b, off, none⟩ = some (.int .u8 100)) :
    Calls Yba.prog 6 #[.slice (some ⟨b, off, none⟩) len cap] w fun e w' => e = .returned (.tuple #[.slice (some ⟨b, off, none⟩) len cap, .bool true]) ∧ w = w' := by
  have h0 : ((len : Int) == 0) = false := by simp; omega
  go_enter Yba.func6, Yba.ntmps6
  go_wp2
  go_ret2
  exact ⟨rfl, rfl⟩

/-- More than 4096 bytes. -/
theorem walk_big (a : Option Addr) (len cap : Nat) (s : Int) (w : World) (hl : 4096 < len) :
    Calls Yba.prog 4 #[.slice a len cap, .int .u8 s] w fun e w' => e = .returned (.bool true) ∧ Below w.heap.size w w' := by
  have h0 : (4096 : Int) < (len : Int) := by omega
  go_enter Yba.func4, Yba.ntmps4
  go_wp2_with fail
  go_ret
  exact ⟨rfl, Below.refl _ _⟩

theorem info5 : (Yba.prog.info? 5).map (fun i => (i.zero, i.size, i.bytes)) = some (some (.int .u8 0), 1, 1) := by kernel_rfl

/-- The literal's cells. -/
def lit6 : Array Value := #[.int .u8 108, .int .u8 100, .int .u8 105, .int .u8 48, .int .u8 51, .int .u8 101]

/-- The byte that is chosen. -/
def chosen (r : Nat) : Int := [108, 100, 105, 48, 51, 101].getD r 0

theorem lit6_at (r : Nat) (h : r < 6) : lit6[r]? = some (.int .u8 (chosen r)) := by
  match r, h with
  | 0, _ => rfl
  | 1, _ => rfl
  | 2, _ => rfl
  | 3, _ => rfl
  | 4, _ => rfl
  | 5, _ => rfl

theorem keep_cells {w w0 w1 : World} {o o1 : Obj} (h0 : (w.alloc o).grownBy w0 none) (h1 : (w0.alloc o1).grownBy w1 (some (w.heap.size + 1))) :
    ∀ ad v, w.cell? ad = some v → w1.cell? ad = some v := by
  intro ad v h
  have hb := World.block_lt_of_cell? w ad h
  have e0 : (w.alloc o).cell? ad = some v := (World.grownBy_alloc w o none).cell h (by simp)
  have e1 := h0.cell e0 (by simp)
  have e2 : (w0.alloc o1).cell? ad = some v := (World.grownBy_alloc w0 o1 none).cell e1 (by simp)
  exact h1.cell e2 (by simp; omega)

theorem src_cells {w w1 : World} {a : Option Addr} {zs : List Int} {len : Nat} (hz : len ≤ zs.length)
    (hc : Hid (∀ x, a = some x → ∀ i, i < zs.length → w.cell? (x.add i) = some (.int .u8 (zs.getD i 0)))) (hk : Hid (∀ ad v, w.cell? ad = some v → w1.cell? ad = some v)) :
    ∀ ad, a = some ad → ∀ j u, ((zs.take len).map (Value.int .u8))[j]? = some u → w1.cell? (ad.add j) = some u := by
  intro ad ha j u hu
  have hj : j < len := by
    have := (List.getElem?_eq_some_iff.1 hu).1
    simp at this; omega
  refine hk.out _ _ ?_
  rw [hc.out ad ha j (by omega)]
  simp [hj, show j < zs.length by omega] at hu
  subst hu
  simp [List.getD, show j < zs.length by omega]

set_option maxHeartbeats 1000000 in
theorem walk_main (a : Option Addr) (len cap : Nat) (zs : List Int) (s : Int) (w : World) (h4 : len ≤ 4096) (hz : len ≤ zs.length)
    (hs0 : 0 ≤ s) (hs1 : s ≤ 255) (hnil : a = none → len = 0 ∧ cap = 0)
    (hc : ∀ x, a = some x → ∀ i, i < zs.length → w.cell? (x.add i) = some (.int .u8 (zs.getD i 0))) :
    Calls Yba.prog 4 #[.slice a len cap, .int .u8 s] w fun e w' => e = .returned (.bool true) ∧ Below w.heap.size w w' := by
  obtain ⟨i0, hi, hz0, hz1, hz2⟩ := info_parts info5
  have h0 : ¬ (4096 : Int) < (len : Int) := by omega
  obtain ⟨r, hr⟩ : ∃ r : Nat, (s % 6).toNat = r := ⟨_, rfl⟩
  have hr6 : r < 6 := by omega
  have HR : Hid ((s % 6).toNat = r) := hr
  have HC : Hid (∀ x, a = some x → ∀ i, i < zs.length → w.cell? (x.add i) = some (.int .u8 (zs.getD i 0))) := hc
  have HN : Hid (a = none → len = 0 ∧ cap = 0) := hnil
  clear hr hc hnil
  go_enter Yba.func4, Yba.ntmps4
  go_wp2_with (at_make; refine wpList_make_own _ rfl _ _ 22 rfl (w.heap.size + 1) 5 i0 (.int .u8 0) 1 Yba.underlying22 hi hz0 hz1 _ _ _ (len + 1) rfl rfl (by omega) ?b2 ?b3 ?b4 ?_)
  case b2 => first | omega | (rw [hz2]; omega)
  case b3 => unfold maxLen; omega
  intro w0 hown0 hgrow0
  have hsz0 := hgrow0.size
  simp at hsz0
  obtain ⟨x, hx⟩ : ∃ x, chosen r = x := ⟨_, rfl⟩
  have hcx : w0.cell? ⟨w.heap.size, (s % 6).toNat, none⟩ = some (.int .u8 x) := by
    rw [HR.out, ← hx]
    refine hgrow0.cell ?_ (by simp)
    exact (World.cell?_alloc_new w _ 5 r).trans (lit6_at r hr6)
  clear hx
  have HG0 : Hid ((w.alloc (.cells lit6 5)).grownBy w0 none) := hgrow0
  clear hgrow0
  go_wp2_with (at_builtin; refine wpList_append_fits _ rfl (.tmp 19) (.tmp 28) 22 rfl (w.heap.size + 1) 5 i0 1 Yba.underlying22 hi hz1 (w.heap.size + 1) 0 (len + 1) _ rfl (hown0.alloc _) ⟨w0.heap.size, 0, none⟩ 1 1 [.int .u8 x] rfl rfl (cell_one_new _ _ _) (ints_oneCell .u8 [x]) (by omega) ?_)
  intro w1 hown1 hgrow1
  have HK : Hid (∀ ad v, w.cell? ad = some v → w1.cell? ad = some v) := keep_cells HG0.out hgrow1
  have hsz1 := hgrow1.size
  simp at hsz1
  go_wp2_with (at_builtin; refine wpList_append_fits_any _ rfl (.tmp 30) (.tmp 31) 22 rfl (w.heap.size + 1) 5 i0 1 Yba.underlying22 hi hz1 (w.heap.size + 1) 1 (len + 1) _ rfl hown1 a len cap ((zs.take len).map (Value.int .u8)) rfl (by simp; omega) HN.out (src_cells hz HC HK) (ints_oneCell _ _) (by omega) ?_)
  intro w2 hown2 hgrow2
  have hbel : Below w.heap.size w w2 := by
    have b0 := ((Below.refl w.heap.size w).alloc (Nat.le_refl _) (.cells lit6 5)).grown HG0.out (by simp) (fun k h => by cases h)
    have b1 := (b0.alloc b0.size (.cells #[.int .u8 x] 5)).grown hgrow1 (by simp; omega) (fun k h => by cases h; omega)
    exact b1.grown hgrow2 b1.size (fun k h => by cases h; omega)
  have hcw : w2.cell? ⟨w.heap.size + 1, 0, none⟩ = some (.int .u8 x) := by
    have := hown2.cellAt 0 (by omega)
    simpa using this
  have hlen : 0 < 1 + len := by omega
  clear hown0 hown1 hown2 hcx hgrow1 hgrow2
  by_cases e1 : x = 108
  · subst e1
    go_wp2_with (first
      | (go_at_call 5; refine (list_yes (w.heap.size + 1) 0 (1 + len) (len + 1) _ hlen hcw).mono ?_; rintro e w' ⟨rfl, rfl⟩)
      | (go_at_call 6; refine (dict_no (w.heap.size + 1) 0 (1 + len) (len + 1) 108 _ hlen hcw rfl).mono ?_; rintro e w' ⟨rfl, rfl⟩))
    go_ret
    exact ⟨rfl, hbel⟩
  by_cases e2 : x = 100
  · subst e2
    go_wp2_with (first
      | (go_at_call 5; refine (list_no (w.heap.size + 1) 0 (1 + len) (len + 1) 100 _ hlen hcw rfl).mono ?_; rintro e w' ⟨rfl, rfl⟩)
      | (go_at_call 6; refine (dict_yes (w.heap.size + 1) 0 (1 + len) (len + 1) _ hlen hcw).mono ?_; rintro e w' ⟨rfl, rfl⟩))
    go_ret
    exact ⟨rfl, hbel⟩
  · have f1 : (x != 108) = true := by simpa using e1
    have f2 : (x != 100) = true := by simpa using e2
    have f3 : (x == 108) = false := by simpa using e1
    have f4 : (x == 100) = false := by simpa using e2
    go_wp2_with (first
      | (go_at_call 5; refine (list_no (w.heap.size + 1) 0 (1 + len) (len + 1) x _ hlen hcw f1).mono ?_; rintro e w' ⟨rfl, rfl⟩)
      | (go_at_call 6; refine (dict_no (w.heap.size + 1) 0 (1 + len) (len + 1) x _ hlen hcw f2).mono ?_; rintro e w' ⟨rfl, rfl⟩))
    go_ret
    exact ⟨rfl, hbel⟩
end Go.Proofs.Ybulkchlq.lawS4176CKinds
