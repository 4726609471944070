/-
  (*groupScorer).scoreAt.
-/
import Derived.Test.YbulkchngGrp
namespace Go.Proofs.Ybulkchng
open Go.RowKit
attribute [local go_sem] run_store_float

set_option maxRecDepth 100000 in
theorem score_quiet (L : Lies) (D S : Nat → Nat) (p : Nat) (w : World) (h : ScorAt L D S (p : Int) w) (hp : p < L.n) (hn : L.n ≤ 2048) :
    Calls Yba.prog 62 #[.pointer (some ⟨L.sb, 0, none⟩)] w fun e w' => e = .returned (.float .f64 (fl (S p))) ∧ ∃ q, w' = w.drewN q := by
  obtain ⟨sb, db, fb, da, fa, n, dc, fc⟩ := L
  have c0 := h.c0
  have c1 := h.c1
  have c2 := h.c2
  have e0 := h.fa (by simp only at hp ⊢; omega)
  simp only at e0 c0 c1 c2 hp hn ⊢
  subst e0
  have c3 := h.ff p hp
  have hi : (p : Int) < (n : Int) := by omega
  have h0 : ¬ (p : Int) < 0 := by omega
  have h1 : decide ((n : Int) ≤ (p : Int)) = false := by simp; omega
  simp only at c3
  clear h
  go_enter Yba.func62, Yba.ntmps62
  go_wp2
  go_quiet (fail)
  go_wp2
  go_quiet (fail)
  go_wp2
  go_ret
  exact ⟨rfl, _, World.drewN_drewN _ _ _⟩

/-- A clause's part of the score. -/
def part (X : Cx) (d t : Nat) : Nat := if t < X.m ∧ has X t d = true then X.boost t * X.S t (rk (X.L t).n (X.D t) d) else 0
def scTo (X : Cx) (d : Nat) : Nat → Nat
  | 0 => 0
  | i + 1 => scTo X d i + part X d i
/-- A document's score. -/
def sc (X : Cx) (d : Nat) : Nat := scTo X d X.N

theorem part_le {X : Cx} (G : Good X) {d t : Nat} (hd : d < 100000) (ht : t < X.N) : part X d t ≤ X.boost t * 256 := by
  unfold part
  split
  · rename_i h
    exact Nat.mul_le_mul_left _ (G.sc t ht _ (hasB_lt hd h.2).1).2
  · exact Nat.zero_le _
theorem scTo_le {X : Cx} (G : Good X) {d : Nat} (hd : d < 100000) : ∀ i, i ≤ X.N → scTo X d i ≤ i * 512
  | 0, _ => Nat.zero_le _
  | i + 1, hi => by
    have h1 := scTo_le G hd i (by omega)
    have h2 := part_le G hd (t := i) (by omega)
    have h3 : X.boost i ≤ 2 := by rw [G.bo]; split <;> omega
    have h4 : X.boost i * 256 ≤ 2 * 256 := Nat.mul_le_mul_right _ h3
    show scTo X d i + part X d i ≤ _
    omega
theorem sc_le {X : Cx} (G : Good X) {d : Nat} (hd : d < 100000) : sc X d ≤ 768 := by
  have hN := G.N3
  have hm := G.m2
  have key : ∀ i, i ≤ X.N → scTo X d i ≤ 768 ∧ (i ≤ 1 → scTo X d i ≤ 256) := by
    intro i hi
    have p0 : 0 < X.N → part X d 0 ≤ 256 := fun h => by have := part_le G hd h; rw [G.bo] at this; simpa using this
    have p1 : 1 < X.N → part X d 1 ≤ 512 := fun h => by have := part_le G hd h; rw [G.bo] at this; simpa using this
    have p2 : part X d 2 = 0 := by unfold part; rw [if_neg (by omega)]
    have e0 : scTo X d 0 = 0 := rfl
    have e1 : scTo X d 1 = scTo X d 0 + part X d 0 := rfl
    have e2 : scTo X d 2 = scTo X d 1 + part X d 1 := rfl
    have e3 : scTo X d 3 = scTo X d 2 + part X d 2 := rfl
    have : i = 0 ∨ i = 1 ∨ i = 2 ∨ i = 3 := by omega
    rcases this with rfl | rfl | rfl | rfl
    · omega
    · have := p0 (by omega); omega
    · have := p0 (by omega); have := p1 (by omega); omega
    · have := p0 (by omega); have := p1 (by omega); omega
  exact (key X.N (Nat.le_refl _)).1

theorem method_score (a : Addr) (w : World) : (method 208 28 (.pointer (some a)) "example.com/kvasir/kvasir.score").run Yba.prog w = .ok (62, .pointer (some a)) w := by kernel_rfl

set_option maxHeartbeats 3200000 in
set_option maxRecDepth 100000 in
theorem scoreAt_any (X : Cx) (G : Good X) (d B : Nat) (w : World) (hg : Grp X w) (hf : Fam X d w) (hB : B ≤ w.heap.size) (hd : d < 100000) :
    Calls Yba.prog 33 #[.pointer (some ⟨X.gb, 0, none⟩), .int .i64 d] w fun e w' => e = .returned (.float .f64 (fl (sc X d))) ∧ Grp X w' ∧ Fam X d w' ∧ Frm B (isS X) w w' := by
  have g0 := hg.g0
  have HG : Hid (Grp X w ∧ Fam X d w) := ⟨hg, hf⟩
  obtain ⟨k, hk⟩ : ∃ k, k = X.N := ⟨_, rfl⟩
  rw [← hk] at g0
  have HK : Hid (k = X.N) := hk
  have hk3 : k ≤ 3 := by have := G.N3; omega
  clear hg hf hk
  go_enter Yba.func33, Yba.ntmps33
  go_wp2
  go_loopw [5, 13] (fun vs vi wr => ∃ i : Nat, vi = .int .i64 i ∧ vs = .float .f64 (fl (scTo X d i)) ∧ i ≤ k ∧ Grp X wr ∧ Fam X d wr ∧ Frm B (isS X) w wr) (fun _ vi _ => k - (intOf vi).toNat)
  case atStart => exact ⟨0, rfl, by show _ = Value.float _ (fl 0); rw [fl_zero], Nat.zero_le _, HG.out.1, HG.out.2, Frm.refl _ _ _⟩
  case round =>
    obtain ⟨i, rfl, rfl, hi, hgr, hfr, hFr⟩ := hrel
    have HJ : Hid (Grp X wr ∧ Fam X d wr ∧ Frm B (isS X) w wr) := ⟨hgr, hfr, hFr⟩
    clear hgr hfr hFr
    by_cases hik : i < k
    · have hii : (i : Int) < (k : Int) := by omega
      have huN : i < X.N := by have := HK.out; omega
      have e0 := HJ.out.1.k0 i huN
      have e1 := HJ.out.1.k1 i huN
      have e2 := HJ.out.1.k2 i huN
      unfold scv at e2
      have hmt := method_advance
      have hms := method_score
      have hln := G.ln i huN
      by_cases him : i < X.m
      · unfold occ at e0
        rw [if_pos him] at e0
        cases hh : has X i d with
        | true =>
          have hd1 : (nextDoc (X.L i) (X.D i) d == (d : Int)) = true := by have := hh; unfold has hasB at this; unfold nextDoc; simpa using this
          have HH : Hid (has X i d = true) := hh
          obtain ⟨Wa, hWa⟩ : ∃ Wa, Wa = wr.alloc (.cells #[.string { data := #[111, 112, 116, 105, 111, 110, 97, 108] }, .float .f64 (fl (X.boost i)), .iface 28 (.pointer (some ⟨(X.L i).sb, 0, none⟩))] 50) := ⟨_, rfl⟩
          have hgA : wr.grownBy Wa none := by rw [hWa]; exact World.grownBy_alloc _ _ none
          have q0 : Wa.cell? ⟨wr.heap.size, 0, none⟩ = some (.string { data := #[111, 112, 116, 105, 111, 110, 97, 108] }) := by rw [hWa, World.cell?_alloc_new]; rfl
          have q1 : Wa.cell? ⟨wr.heap.size, 1, none⟩ = some (.float .f64 (fl (X.boost i))) := by rw [hWa, World.cell?_alloc_new]; rfl
          have q2 : Wa.cell? ⟨wr.heap.size, 2, none⟩ = some (.iface 28 (.pointer (some ⟨(X.L i).sb, 0, none⟩))) := by rw [hWa, World.cell?_alloc_new]; rfl
          have HA : Hid (Grp X Wa ∧ Fam X d Wa ∧ Frm B (isS X) w Wa) := ⟨HJ.out.1.kept hgA (by simp) (by simp) (by simp), HJ.out.2.1.kept hgA (fun u hu => ⟨by simp, by simp, by simp⟩), HJ.out.2.2.grown hgA (by simp) (Nat.le_trans hB HJ.out.2.2.size)⟩
          have HWa := hWa.symm
          have hsbl : (X.L i).sb < wr.heap.size := by obtain ⟨z, h1, h2⟩ := HJ.out.2.1 i huN; exact World.block_lt_of_cell? wr _ h1.c0
          clear hgA hWa
          have hrk := hasB_lt hd hh
          have hpart : part X d i = X.boost i * X.S i (rk (X.L i).n (X.D i) d) := by unfold part; rw [if_pos ⟨him, hh⟩]
          have hsc := G.sc i huN _ hrk.1
          have hb1 : 1 ≤ X.boost i ∧ X.boost i ≤ 2 := by rw [G.bo]; split <;> omega
          have hp1 := part_le G hd huN
          have hs1 := scTo_le G hd i (by omega)
          have hpp : 0 < X.boost i * X.S i (rk (X.L i).n (X.D i) d) := Nat.mul_pos (by omega) (by omega)
          have hle : X.boost i * 256 ≤ 2 * 256 := Nat.mul_le_mul_right _ hb1.2
          have hi5 : i * 512 ≤ 2000 := by omega
          have mf := fun w => run_float_arith (P := Yba.prog) w .mul 35 .f64 _ _ _ (mul_fl (X.boost i) (X.S i (rk (X.L i).n (X.D i) d)) (by omega) (by omega) (by rw [← hpart]; omega))
          have af := fun w => run_float_arith (P := Yba.prog) w .add 35 .f64 _ _ _ (add_fl (scTo X d i) (X.boost i * X.S i (rk (X.L i).n (X.D i) d)) hpp (by rw [← hpart]; omega))
          have HP : Hid (part X d i = X.boost i * X.S i (rk (X.L i).n (X.D i) d)) := hpart
          have HRK : Hid (rk (X.L i).n (X.D i) d < (X.L i).n) := hrk.1
          clear hpart hsc hp1 hs1 hpp hle hi5 hrk hb1
          go_wp2_with (go_at_call 59; refine (advance_at (X.L i) (X.D i) (X.S i) d Wa (HA.out.2.1 _ huN) (G.up _ huN) (by omega)).mono ?_; rintro z w1 ⟨rfl, hs1, hg1⟩; have r1 := hg1.cell q1 (by simp; omega); have r2 := hg1.cell q2 (by simp; omega); have HS1 : Hid (ScorAt (X.L i) (X.D i) (X.S i) (rk (X.L i).n (X.D i) d : Int) w1 ∧ Wa.grownBy w1 (some (X.L i).sb)) := ⟨hs1, hg1⟩; clear hs1 hg1)
          clear e0 e1 e2 q0 q1 q2
          go_quiet ((go_at_call 62; refine Calls.quiet_of (score_quiet (X.L i) (X.D i) (X.S i) _ _ (HS1.out.1.kept (grown_drewN _ _) (by simp) (by simp) (by simp)) HRK.out (by omega))))
          go_wp2
          go_roundw
          case measure => simp [intOf]; omega
          case rel =>
            refine ⟨i + 1, rfl, ?_, by omega, ?_, ?_, ?_⟩
            · show _ = Value.float _ (fl (scTo X d i + part X d i)); rw [HP.out]
            · exact (HA.out.1.step G huN HS1.out.2).kept (grown_drewN _ _) (by simp) (by simp) (by simp)
            · exact (HA.out.2.1.step G huN HS1.out.2 (Tends.of HS1.out.1)).kept (grown_drewN _ _) (fun u hu => ⟨by simp, by simp, by simp⟩)
            · have hB1 : B ≤ Wa.heap.size := Nat.le_trans hB HA.out.2.2.size
              exact (HA.out.2.2.grown HS1.out.2 (fun q e => Or.inr ⟨_, huN, by injection e with e; exact e.symm⟩) hB1).grown (grown_drewN _ _) (by simp) (Nat.le_trans hB1 HS1.out.2.size)
        | false =>
          have hd1 : (nextDoc (X.L i) (X.D i) d == (d : Int)) = false := by have := hh; unfold has hasB at this; unfold nextDoc; simpa using this
          have HH : Hid (has X i d = false) := hh
          obtain ⟨Wa, hWa⟩ : ∃ Wa, Wa = wr.alloc (.cells #[.string { data := #[111, 112, 116, 105, 111, 110, 97, 108] }, .float .f64 (fl (X.boost i)), .iface 28 (.pointer (some ⟨(X.L i).sb, 0, none⟩))] 50) := ⟨_, rfl⟩
          have hgA : wr.grownBy Wa none := by rw [hWa]; exact World.grownBy_alloc _ _ none
          have q0 : Wa.cell? ⟨wr.heap.size, 0, none⟩ = some (.string { data := #[111, 112, 116, 105, 111, 110, 97, 108] }) := by rw [hWa, World.cell?_alloc_new]; rfl
          have q1 : Wa.cell? ⟨wr.heap.size, 1, none⟩ = some (.float .f64 (fl (X.boost i))) := by rw [hWa, World.cell?_alloc_new]; rfl
          have q2 : Wa.cell? ⟨wr.heap.size, 2, none⟩ = some (.iface 28 (.pointer (some ⟨(X.L i).sb, 0, none⟩))) := by rw [hWa, World.cell?_alloc_new]; rfl
          have HA : Hid (Grp X Wa ∧ Fam X d Wa ∧ Frm B (isS X) w Wa) := ⟨HJ.out.1.kept hgA (by simp) (by simp) (by simp), HJ.out.2.1.kept hgA (fun u hu => ⟨by simp, by simp, by simp⟩), HJ.out.2.2.grown hgA (by simp) (Nat.le_trans hB HJ.out.2.2.size)⟩
          have HWa := hWa.symm
          have hsbl : (X.L i).sb < wr.heap.size := by obtain ⟨z, h1, h2⟩ := HJ.out.2.1 i huN; exact World.block_lt_of_cell? wr _ h1.c0
          clear hgA hWa
          go_wp2_with (go_at_call 59; refine (advance_at (X.L i) (X.D i) (X.S i) d Wa (HA.out.2.1 _ huN) (G.up _ huN) (by omega)).mono ?_; rintro z w1 ⟨rfl, hs1, hg1⟩)
          go_roundw
          case measure => simp [intOf]; omega
          case rel =>
            refine ⟨i + 1, rfl, ?_, by omega, HA.out.1.step G huN hg1, HA.out.2.1.step G huN hg1 (Tends.of hs1), HA.out.2.2.grown hg1 (fun q e => Or.inr ⟨_, huN, by injection e with e; exact e.symm⟩) (Nat.le_trans hB HA.out.2.2.size)⟩
            show _ = Value.float _ (fl (scTo X d i + part X d i))
            have : part X d i = 0 := by unfold part; rw [if_neg (by rw [HH.out]; simp)]
            rw [this]; rfl
      · unfold occ at e0
        rw [if_neg him] at e0
        obtain ⟨Wa, hWa⟩ : ∃ Wa, Wa = wr.alloc (.cells #[.string { data := #[112, 114, 111, 104, 105, 98, 105, 116, 101, 100] }, .float .f64 (fl (X.boost i)), .iface 28 (.pointer (some ⟨(X.L i).sb, 0, none⟩))] 50) := ⟨_, rfl⟩
        have hgA : wr.grownBy Wa none := by rw [hWa]; exact World.grownBy_alloc _ _ none
        have q0 : Wa.cell? ⟨wr.heap.size, 0, none⟩ = some (.string { data := #[112, 114, 111, 104, 105, 98, 105, 116, 101, 100] }) := by rw [hWa, World.cell?_alloc_new]; rfl
        have q1 : Wa.cell? ⟨wr.heap.size, 1, none⟩ = some (.float .f64 (fl (X.boost i))) := by rw [hWa, World.cell?_alloc_new]; rfl
        have q2 : Wa.cell? ⟨wr.heap.size, 2, none⟩ = some (.iface 28 (.pointer (some ⟨(X.L i).sb, 0, none⟩))) := by rw [hWa, World.cell?_alloc_new]; rfl
        have HA : Hid (Grp X Wa ∧ Fam X d Wa ∧ Frm B (isS X) w Wa) := ⟨HJ.out.1.kept hgA (by simp) (by simp) (by simp), HJ.out.2.1.kept hgA (fun u hu => ⟨by simp, by simp, by simp⟩), HJ.out.2.2.grown hgA (by simp) (Nat.le_trans hB HJ.out.2.2.size)⟩
        have HWa := hWa.symm
        have hsbl : (X.L i).sb < wr.heap.size := by obtain ⟨z, h1, h2⟩ := HJ.out.2.1 i huN; exact World.block_lt_of_cell? wr _ h1.c0
        clear hgA hWa
        go_wp2
        go_roundw
        case measure => simp [intOf]; omega
        case rel =>
          refine ⟨i + 1, rfl, ?_, by omega, HA.out⟩
          show _ = Value.float _ (fl (scTo X d i + part X d i))
          have : part X d i = 0 := by unfold part; rw [if_neg (by omega)]
          rw [this]; rfl
    · have hii : ¬ (i : Int) < (k : Int) := by omega
      go_wp2
      go_ret
      have : i = X.N := by have := HK.out; omega
      subst this
      exact ⟨rfl, HJ.out⟩
end Go.Proofs.Ybulkchng
