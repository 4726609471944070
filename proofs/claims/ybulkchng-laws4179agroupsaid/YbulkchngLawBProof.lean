/-
  'Rows.LawS4179AGroupSaid', proved.
-/
import Derived.Test.YbulkchngTwo
import Derived.Test.YbulkchngOpen
import Derived.Test.YbulkchngRows
namespace Go.Proofs.Ybulkchng.lawS4179AGroup
open Go.ChangeShapes Go.WideShapes Go.ChangeAt Go.RowKit
set_option linter.unusedVariables false

set_option maxRecDepth 100000 in
/-- Too many hits. -/
theorem walk_many (ad0 ad1 ad2 : Option Addr) (k0 c0 k1 c1 k2 c2 : Nat) (a b c : Int) (w : World) (hn : 1024 < k0 ∨ 1024 < k1 ∨ 1024 < k2) :
    Calls Yba.prog 4 #[.slice ad0 k0 c0, .slice ad1 k1 c1, .slice ad2 k2 c2, .int .u16 a, .int .u16 b, .int .u8 c] w fun e w' => e = .returned (.bool true) ∧ Below w.heap.size w w' := by
  by_cases h0 : 1024 < k0
  · have q0 : decide ((1024 : Int) < (k0 : Int)) = true := by simp; omega
    go_enter Yba.func4, Yba.ntmps4
    go_wp2_with fail
    go_ret
    exact ⟨rfl, Below.refl _ _⟩
  · have q0 : decide ((1024 : Int) < (k0 : Int)) = false := by simp; omega
    by_cases h1 : 1024 < k1
    · have q1 : decide ((1024 : Int) < (k1 : Int)) = true := by simp; omega
      go_enter Yba.func4, Yba.ntmps4
      go_wp2_with fail
      go_ret
      exact ⟨rfl, Below.refl _ _⟩
    · have q1 : decide ((1024 : Int) < (k1 : Int)) = false := by simp; omega
      have h2 : 1024 < k2 := by omega
      have q2 : decide ((1024 : Int) < (k2 : Int)) = true := by simp; omega
      go_enter Yba.func4, Yba.ntmps4
      go_wp2_with fail
      go_ret
      exact ⟨rfl, Below.refl _ _⟩

theorem walk (ad0 ad1 ad2 : Option Addr) (b0 o0 k0 c0 b1 o1 k1 c1 b2 o2 k2 c2 : Nat) (P0 Q0 P1 Q1 P2 Q2 : Nat → Nat) (x y z : Int) (w : World) (H0 : Hits ad0 b0 o0 k0 P0 Q0 w) (H1 : Hits ad1 b1 o1 k1 P1 Q1 w) (H2 : Hits ad2 b2 o2 k2 P2 Q2 w) (hx : 0 ≤ x ∧ x < 65536) (hy : 0 ≤ y ∧ y < 65536) (hz : 0 ≤ z ∧ z < 256) :
    Calls Yba.prog 4 #[.slice ad0 k0 c0, .slice ad1 k1 c1, .slice ad2 k2 c2, .int .u16 x, .int .u16 y, .int .u8 z] w fun e w' => e = .returned (.bool true) ∧ Below w.heap.size w w' := by
  by_cases h1 : 1024 < k0 ∨ 1024 < k1 ∨ 1024 < k2
  · exact walk_many _ _ _ _ _ _ _ _ _ _ _ _ w h1
  · obtain ⟨x', rfl⟩ : ∃ k : Nat, x = (k : Int) := ⟨x.toNat, by omega⟩
    obtain ⟨y', rfl⟩ : ∃ k : Nat, y = (k : Int) := ⟨y.toNat, by omega⟩
    obtain ⟨z', rfl⟩ : ∃ k : Nat, z = (k : Int) := ⟨z.toNat, by omega⟩
    exact group_any ad0 ad1 ad2 b0 o0 k0 c0 b1 o1 k1 c1 b2 o2 k2 c2 P0 Q0 P1 Q1 P2 Q2 x' y' z' w H0 H1 H2 (by omega) (by omega) (by omega) (by omega) (by omega) (by omega)

set_option maxRecDepth 100000 in
theorem lifted (os : Os) (started : os.Started) (H : Type) (enc : TypeId × Value → H) :
    ReturnsInHanded {} Yba.checked os 4 .any (Rows.lawS4179AGroupSpec.pre6 enc Yba.prog Yba.f4 Rows.lawS4179AGroupRow.domain false) (Rows.lawS4179AGroupSpec.post enc Yba.prog Yba.f4 false true false false) := by
  refine returnsInHanded_of_change (C := Yba.checked) own started (by kernel_rfl) Yba.func4
    (ChangeSpec.witness6 (enc := enc) (C := Yba.checked) false ⟨#[], #[.slice none 0 0, .slice none 0 0, .slice none 0 0, .int .u16 0, .int .u16 0, .int .u8 0], []⟩ 8 (by kernel_rfl) (by kernel_rfl) (by kernel_rfl) (by kernel_rfl)) ?_
  intro W base args ds gs before hval0 hW hcnd _
  have hval : ∀ (j : Nat) t v, Yba.f4.params[j]? = some t → args[j]? = some v → Value.okWide Yba.prog W .any base t v := hval0
  have hW' := hW
  obtain ⟨p, q, hA0, hV, rfl, hfz, hnd⟩ := hW
  have hA : DataW.TrodAll enc Yba.prog W 0 (fun _ => true) true Yba.f4.params.toList args.toList ds p := hA0
  rw [Yba.params4] at hA hval
  obtain ⟨v0, vs0, d0, ds0, p0, q0, hargs, rfl, rfl, h0, r0⟩ := trodAll_cons hA
  obtain ⟨v1, vs1, d1, ds1, p1, q1, rfl, rfl, rfl, h1, r1⟩ := trodAll_cons r0
  obtain ⟨v2, vs2, d2, ds2, p2, q2, rfl, rfl, rfl, h2, r2⟩ := trodAll_cons r1
  obtain ⟨v3, vs3, d3, ds3, p3, q3, rfl, rfl, rfl, h3, r3⟩ := trodAll_cons r2
  obtain ⟨v4, vs4, d4, ds4, p4, q4, rfl, rfl, rfl, h4, r4⟩ := trodAll_cons r3
  obtain ⟨v5, vs5, d5, ds5, p5, q5, rfl, rfl, rfl, h5, r5⟩ := trodAll_cons r4
  obtain ⟨rfl, rfl, rfl⟩ := trodAll_nil r5
  obtain rfl : args = #[v0, v1, v2, v3, v4, v5] := by cases args; simp_all
  obtain ⟨rfl, rfl⟩ := trodVars_none hV
  obtain ⟨a0, len0, cap0, rfl⟩ := okWide_slice Yba.underlying22 (hval 0 22 v0 rfl rfl)
  obtain ⟨a1, len1, cap1, rfl⟩ := okWide_slice Yba.underlying22 (hval 1 22 v1 rfl rfl)
  obtain ⟨a2, len2, cap2, rfl⟩ := okWide_slice Yba.underlying22 (hval 2 22 v2 rfl rfl)
  have k0 := h0
  have lt0 : ∀ x ∈ p0, x.block < W.heap.size := by obtain ⟨m, hm⟩ := k0; exact DataW.trod_lt m _ _ _ hm
  have k1 := h1
  have lt1 : ∀ x ∈ p1, x.block < W.heap.size := by obtain ⟨m, hm⟩ := k1; exact DataW.trod_lt m _ _ _ hm
  have k2 := h2
  have lt2 : ∀ x ∈ p2, x.block < W.heap.size := by obtain ⟨m, hm⟩ := k2; exact DataW.trod_lt m _ _ _ hm
  have k3 := h3
  have lt3 : ∀ x ∈ p3, x.block < W.heap.size := by obtain ⟨m, hm⟩ := k3; exact DataW.trod_lt m _ _ _ hm
  have k4 := h4
  have lt4 : ∀ x ∈ p4, x.block < W.heap.size := by obtain ⟨m, hm⟩ := k4; exact DataW.trod_lt m _ _ _ hm
  have k5 := h5
  have lt5 : ∀ x ∈ p5, x.block < W.heap.size := by obtain ⟨m, hm⟩ := k5; exact DataW.trod_lt m _ _ _ hm
  obtain ⟨n3, rfl, _, _, wf3⟩ := open_int Yba.underlying23 (hval 3 23 v3 rfl rfl) h3
  obtain ⟨n4, rfl, _, _, wf4⟩ := open_int Yba.underlying23 (hval 4 23 v4 rfl rfl) h4
  obtain ⟨n5, rfl, _, _, wf5⟩ := open_int Yba.underlying5 (hval 5 5 v5 rfl rfl) h5
  obtain ⟨b0, o0, P0, Q0, HE0⟩ : ∃ b o P Q, Hits a0 b o len0 P Q W := by
    obtain ⟨fuel, hf⟩ := h0
    exact open_hits hf
  obtain ⟨b1, o1, P1, Q1, HE1⟩ : ∃ b o P Q, Hits a1 b o len1 P Q W := by
    obtain ⟨fuel, hf⟩ := h1
    exact open_hits hf
  obtain ⟨b2, o2, P2, Q2, HE2⟩ : ∃ b o P Q, Hits a2 b o len2 P Q W := by
    obtain ⟨fuel, hf⟩ := h2
    exact open_hits hf
  clear hA0 hval0
  refine (walk a0 a1 a2 b0 o0 len0 cap0 b1 o1 len1 cap1 b2 o2 len2 cap2 P0 Q0 P1 Q1 P2 Q2 n3 n4 n5 W HE0 HE1 HE2 (half_of_wf wf3) (half_of_wf wf4) (byte_of_wf wf5)).mono fun e W' ⟨he, bel⟩ => ?_
  subst he
  exact ⟨_, rfl, _, _, _, [], _, [], hW', trodAll_mk1 (shut_bool Yba.underlying4 _), (trodAll_cons_mk (Below.trod laidOut (by kernel_rfl) (of_decide_eq_true (by kernel_rfl)) k0 bel lt0) (trodAll_cons_mk (Below.trod laidOut (by kernel_rfl) (of_decide_eq_true (by kernel_rfl)) k1 bel lt1) (trodAll_cons_mk (Below.trod laidOut (by kernel_rfl) (of_decide_eq_true (by kernel_rfl)) k2 bel lt2) (trodAll_cons_mk (Below.trod laidOut (by kernel_rfl) (of_decide_eq_true (by kernel_rfl)) k3 bel lt3) (trodAll_cons_mk (Below.trod laidOut (by kernel_rfl) (of_decide_eq_true (by kernel_rfl)) k4 bel lt4) (trodAll_cons_mk (Below.trod laidOut (by kernel_rfl) (of_decide_eq_true (by kernel_rfl)) k5 bel lt5) trodAll_mk0)))))), rfl, bel.frame _, fun h => by cases h⟩

theorem over : Rows.lawS4179AGroupRow.holds Yba.pinned (OpenSpec.ofChange Rows.lawS4179AGroupSpec) :=
  OpenClaim.holds_of_wide 4 Yba.f4 rfl rfl rfl rfl rfl rfl rfl ⟨rfl, rfl, rfl, rfl, rfl⟩ rfl rfl rfl rfl rfl (by kernel_rfl) Yba.func4 (by kernel_rfl)
    (of_decide_eq_true (by kernel_rfl)) (by unfold Func.isWrapper; first | (rw [if_pos (by decide +kernel)]; kernel_rfl) | (rw [if_neg (by decide +kernel)]; exact ⟨rfl, rfl⟩))
    (fun os started H enc _ => lifted os started H enc)

theorem proved : Rows.LawS4179AGroupSaid := over
#print axioms proved
end Go.Proofs.Ybulkchng.lawS4179AGroup
