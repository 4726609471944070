/-
  math.Inf, threshold, beats, count.
-/
import Derived.Test.YbulkchngColl
namespace Go.Proofs.Ybulkchng
open Go.RowKit Go.Sort
attribute [local go_sem] run_store_float

def negInf : Nat := 18442240474082181120

theorem frombits (w : World) : (callFunc 35 #[.int .u64 18442240474082181120]).run Yba.prog w = .ok (.value (.float .f64 18442240474082181120)) w := by kernel_rfl

set_option maxRecDepth 100000 in
theorem inf_any (w : World) : Calls Yba.prog 24 #[.int .i64 (-1)] w fun e w' => e = .returned (.float .f64 18442240474082181120) ∧ w = w' := by
  have hb := frombits
  go_enter Yba.func24, Yba.ntmps24
  go_wp2
  go_ret
  exact ⟨rfl, rfl⟩

/-- The score to beat. -/
def thr (limit : Nat) (h : Array Mt) : Nat := if h.size < limit then 18442240474082181120 else fl h[0]!.2

set_option maxRecDepth 100000 in
theorem threshold_any (cb limit : Nat) (v : Value) (h : Array Mt) (total B : Nat) (w : World) (c : Coll cb limit v h total B w) (hl : 0 < limit) (hb : limit ≤ 12) (hs : h.size ≤ limit) :
    Calls Yba.prog 25 #[.pointer (some ⟨cb, 0, none⟩)] w fun e w' => e = .returned (.float .f64 (thr limit h)) ∧ w.grownBy w' none := by
  have c0 := c.c0
  have c1 := c.c1
  by_cases hlt : h.size < limit
  · have hlti : decide ((h.size : Int) < (limit : Int)) = true := by simp; omega
    have HT : Hid (thr limit h = 18442240474082181120) := show _ = _ by unfold thr; rw [if_pos hlt]
    have hv : ∃ ad cap, v = .slice ad h.size cap := by
      rcases c.own.2 with ⟨h1, h2⟩ | ⟨g, cap, cur, h1, _⟩
      · exact ⟨none, 0, by rw [h1, h2]⟩
      · exact ⟨_, _, h1⟩
    obtain ⟨ad, cap, rfl⟩ := hv
    clear c
    go_enter Yba.func25, Yba.ntmps25
    go_wp2
    go_quiet (fail)
    go_wp2_with (go_at_call 24; refine (inf_any _).mono ?_; rintro e w1 ⟨rfl, rfl⟩)
    go_ret
    exact ⟨by rw [HT.out]; rfl, grown_drewN _ _⟩
  · have hlti : decide ((h.size : Int) < (limit : Int)) = false := by simp; omega
    have HT : Hid (thr limit h = fl h[0]!.2) := show _ = _ by unfold thr; rw [if_neg hlt]
    obtain ⟨g, cap, rfl, hg, hc, hR⟩ := c.own.row (by omega)
    have e1 := hR.c1 0 (by omega)
    obtain ⟨s, hsn⟩ : ∃ s, s = fl h[0]!.2 := ⟨_, rfl⟩
    rw [← hsn] at e1
    have HSN : Hid (s = fl h[0]!.2) := hsn
    have h0 : (0 : Int) < (h.size : Int) := by omega
    simp only [Nat.zero_mul, Nat.zero_add] at e1
    clear c hsn hR
    go_enter Yba.func25, Yba.ntmps25
    go_wp2
    go_quiet (fail)
    go_wp2
    go_ret
    exact ⟨by rw [HT.out, ← HSN.out]; rfl, grown_drewN _ _⟩

/-- A bound with its slack is more than any score. -/
structure Beats (u : Nat) : Prop where
  mul : ∃ p, floatBits .mul .f64 u 4427038433705197568 = some p ∧ ∃ r, floatBits .add .f64 u p = some r ∧ (FloatKind.f64.format.order r 18442240474082181120 == some .gt) = true ∧ ∀ s, s < 1000 → (FloatKind.f64.format.order r (fl s) == some .gt) = true

theorem order_gt (r : Nat) (m t : Nat) (hr : Ieee.double.read r = .number false m (-(t : Int))) (ht : t ≤ 1074) (s : Nat) (hs : s < 1024) (h : s * 2 ^ t < m) : (FloatKind.f64.format.order r (fl s) == some .gt) = true := by
  show (Ieee.double.order r (fl s) == some .gt) = true
  obtain ⟨n, j, hn, hj, en⟩ := read_any s (by omega)
  unfold Ieee.Format.order
  rw [hr, hn]
  simp only [Ieee.Datum.order, Ieee.signed, Bool.false_eq_true, if_false]
  rw [compare_cast]
  have e2 : (n <<< (-(j : Int) - min (-(t : Int)) (-(j : Int))).toNat) * 2 ^ (1074 - max t j) = s * 2 ^ 1074 := by
    rw [← en, Nat.shiftLeft_eq, Nat.mul_assoc, ← Nat.pow_add]
    congr 2; omega
  have e1 : (m <<< (-(t : Int) - min (-(t : Int)) (-(j : Int))).toNat) * 2 ^ (1074 - max t j) = m * 2 ^ (1074 - t) := by
    rw [Nat.shiftLeft_eq, Nat.mul_assoc, ← Nat.pow_add]
    congr 2; omega
  have e3 : s * 2 ^ 1074 < m * 2 ^ (1074 - t) := by
    have : s * 2 ^ t * 2 ^ (1074 - t) < m * 2 ^ (1074 - t) := Nat.mul_lt_mul_of_pos_right h (Nat.two_pow_pos _)
    rw [Nat.mul_assoc, ← Nat.pow_add, show t + (1074 - t) = 1074 by omega] at this
    exact this
  have e4 : n <<< (-(j : Int) - min (-(t : Int)) (-(j : Int))).toNat < m <<< (-(t : Int) - min (-(t : Int)) (-(j : Int))).toNat := by
    refine Nat.lt_of_mul_lt_mul_right (a := 2 ^ (1074 - max t j)) ?_
    rw [e1, e2]; exact e3
  rw [Nat.compare_eq_gt.2 e4]
  rfl
theorem beats_1000 : Beats 4652007308841189376 :=
  ⟨⟨4471863323746369536, by kernel_rfl, 4652007308841197376, by kernel_rfl, by kernel_rfl, fun s hs => order_gt _ 8796093022216000 43 (by kernel_rfl) (by omega) s (by omega) (by omega)⟩⟩
theorem beats_2000 : Beats 4656510908468559872 :=
  ⟨⟨4476366923373740032, by kernel_rfl, 4656510908468567872, by kernel_rfl, by kernel_rfl, fun s hs => order_gt _ 8796093022216000 42 (by kernel_rfl) (by omega) s (by omega) (by omega)⟩⟩
theorem beats_3000 : Beats 4658815484840378368 :=
  ⟨⟨4478671499745558528, by kernel_rfl, 4658815484840384368, by kernel_rfl, by kernel_rfl, fun s hs => order_gt _ 6597069766662000 41 (by kernel_rfl) (by omega) s (by omega) (by omega)⟩⟩

/-- The scores that may be asked to be beaten. -/
def Low (theta : Nat) : Prop := theta = 18442240474082181120 ∨ ∃ s, s < 1000 ∧ theta = fl s

set_option maxRecDepth 100000 in
theorem beats_any (cb limit : Nat) (v : Value) (h : Array Mt) (total B : Nat) (u theta : Nat) (w : World) (c : Coll cb limit v h total B w) (hu : Beats u) (ht : Low theta) :
    Calls Yba.prog 29 #[.pointer (some ⟨cb, 0, none⟩), .float .f64 u, .float .f64 theta] w fun e w' => e = .returned (.bool true) ∧ w = w' := by
  obtain ⟨p, hp, r, hr, h1, h2⟩ := hu.mul
  have hg : (FloatKind.f64.format.order r theta == some .gt) = true := by
    rcases ht with rfl | ⟨s, hs, rfl⟩
    · exact h1
    · exact h2 s hs
  have c5 := c.c5
  have m1 := fun w => run_float_arith (P := Yba.prog) w .mul 35 .f64 _ _ _ hp
  have a1 := fun w => run_float_arith (P := Yba.prog) w .add 35 .f64 _ _ _ hr
  clear c h1 h2 hp hr hu ht
  go_enter Yba.func29, Yba.ntmps29
  go_wp2
  go_ret
  exact ⟨rfl, rfl⟩

theorem Coll.setTotal {cb limit : Nat} {v : Value} {h : Array Mt} {total B : Nat} {w : World} (c : Coll cb limit v h total B w) (t : Nat) : Coll cb limit v h t B (w.setCell ⟨cb, 2, none⟩ (.int .i64 t)) := by
  refine ⟨?_, ?_, World.cell?_setCell_same _ _ _ c.c2, ?_, ?_, ?_, fun i => by rw [World.frozen?_setCell]; exact c.fz i, World.ownsRow.kept c.own (grown_setCell w ⟨cb, 2, none⟩ _) (Or.inr (OwnM.far c.own c.far)), c.far, by simpa [World.setCell] using c.base⟩
  · rw [World.cell?_setCell_other _ _ _ _ (by simp)]; exact c.c0
  · rw [World.cell?_setCell_other _ _ _ _ (by simp)]; exact c.c1
  · rw [World.cell?_setCell_other _ _ _ _ (by simp)]; exact c.c3
  · rw [World.cell?_setCell_other _ _ _ _ (by simp)]; exact c.c4
  · rw [World.cell?_setCell_other _ _ _ _ (by simp)]; exact c.c5

set_option maxRecDepth 100000 in
theorem count_any (cb limit : Nat) (v : Value) (h : Array Mt) (total B : Nat) (w : World) (c : Coll cb limit v h total B w) (ht : total ≤ 100000) :
    Calls Yba.prog 31 #[.pointer (some ⟨cb, 0, none⟩)] w fun e w' => e = .returned (.tuple #[]) ∧ Coll cb limit v h (total + 1) B w' ∧ w.grownBy w' (some cb) := by
  have c2 := c.c2
  have z2 := c.fz 2
  have c3 := c.c3
  have HC : Hid (Coll cb limit v h (total + 1) B (w.setCell ⟨cb, 2, none⟩ (.int .i64 ((total : Int) + 1)))) := c.setTotal (total + 1)
  clear c
  go_enter Yba.func31, Yba.ntmps31
  go_wp2
  go_end0
  exact ⟨rfl, HC.out, grown_setCell w ⟨cb, 2, none⟩ _⟩
end Go.Proofs.Ybulkchng
