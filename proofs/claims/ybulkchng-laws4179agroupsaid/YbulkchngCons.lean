/-
  (*window).consider.
-/
import Derived.Test.YbulkchngMat
namespace Go.Proofs.Ybulkchng
open Go.RowKit
attribute [local go_sem] run_store_float

/-- A class of worlds as a family. -/
theorem class_family (C : World → Prop) : ∃ (σ : Type) (F : σ → World), (∀ s, C (F s)) ∧ ∀ w, C w → ∃ s, w = F s :=
  ⟨{w // C w}, Subtype.val, fun s => s.2, fun w h => ⟨⟨w, h⟩, rfl⟩⟩

theorem thr_low {limit : Nat} {h : Array Mt} (hl : 1 ≤ limit) (hs : Small h) : Low (thr limit h) := by
  unfold thr
  split
  · exact Or.inl rfl
  · exact Or.inr ⟨_, hs 0 (by omega), rfl⟩

set_option maxHeartbeats 6400000 in
set_option maxRecDepth 100000 in
theorem consider_any (X : Cx) (G : Good X) (lb lc B t d : Nat) (v : Value) (h : Array Mt) (w : World) (hW : Win X w) (hBn : Bnd X w) (hO : Ord X w) (hD : Docs X (fun _ => t) w) (hS : Spl X lb lc w) (hG : Grp X w) (hF : Fam X t w)
    (hC : Coll X.cb X.limit v h (offd X t).length B w) (hK : Kept X.limit (offd X t) h) (hs : Small h) (hU : Under X B) (hlb : LbOk X lb B) (ht : t ≤ d) (hd : d < X.n) (hmin : ∀ u, u < X.m → (d : Int) ≤ nextDoc (X.L u) (X.D u) t) (hex : ∃ u, u < X.m ∧ nextDoc (X.L u) (X.D u) t = (d : Int)) :
    Calls Yba.prog 21 #[.pointer (some ⟨X.wb, 0, none⟩), .int .i64 d] w fun e w' => e = .returned (.tuple #[]) ∧ ∃ v' h', Coll X.cb X.limit v' h' (offd X (d + 1)).length B w' ∧ Kept X.limit (offd X (d + 1)) h' ∧ Small h' ∧ Fam X d w' ∧ Frm B (Wr X) w w' := by
  have HH : Hid (Win X w ∧ Bnd X w ∧ Ord X w ∧ Docs X (fun _ => t) w ∧ Spl X lb lc w ∧ Grp X w ∧ Fam X t w ∧ Coll X.cb X.limit v h (offd X t).length B w ∧ Kept X.limit (offd X t) h ∧ Small h) := ⟨hW, hBn, hO, hD, hS, hG, hF, hC, hK, hs⟩
  have HM : Hid ((∀ u, u < X.m → (d : Int) ≤ nextDoc (X.L u) (X.D u) t) ∧ ∃ u, u < X.m ∧ nextDoc (X.L u) (X.D u) t = (d : Int)) := ⟨hmin, hex⟩
  have w0 := hW.w0
  have hli := G.li
  have hm2 := G.m2
  have hbase := hC.base
  clear hBn hO hD hG hF hK hs hmin hex
  go_enter Yba.func21, Yba.ntmps21
  go_wp2_with (go_at_call 25; refine (threshold_any X.cb X.limit v h (offd X t).length B w hC (by omega) hli.2 HH.out.2.2.2.2.2.2.2.2.1.le).mono ?_; rintro z w1 ⟨rfl, hg1⟩)
  have HF1 : Hid (Frm B (Wr X) w w1) := Frm.of hg1 (by simp) hbase
  have p9 := hg1.cell hS.s9 (by simp)
  have p10 := hg1.cell hS.s10 (by simp)
  have pl := hg1.cell hS.l0 (by simp)
  have p8 := hg1.cell hS.s8 (by simp)
  have HG1 : Hid (w.grownBy w1 none) := hg1
  clear hg1 w0 hW hS hC
  go_quiet (fail)
  have HG2 : Hid (w.grownBy (w1.drewN nq) none) := HG1.out.trans (grown_drewN _ _)
  have r8 := (grown_drewN w1 nq).cell p8 (by simp)
  clear p8 p9 p10 pl
  generalize w1.drewN nq = w2 at HG2 r8 ⊢
  have HF2 : Hid (Frm B (Wr X) w w2) := Frm.of HG2.out (by simp) hbase
  have HW2 : Hid (Win X w2 ∧ Bnd X w2 ∧ Ord X w2 ∧ Docs X (fun _ => t) w2 ∧ Spl X lb lc w2 ∧ Grp X w2) := ⟨HH.out.1.wr G HF2.out hU, HH.out.2.1.wr G HF2.out hU, HH.out.2.2.1.wr G HF2.out hU, HH.out.2.2.2.1.wr G HF2.out hU, HH.out.2.2.2.2.1.wr G HF2.out hU hlb, HH.out.2.2.2.2.2.1.wr G HF2.out hU⟩
  have HC2 : Hid (Coll X.cb X.limit v h (offd X t).length B w2) := HH.out.2.2.2.2.2.2.2.1.kept HG2.out (by simp) (by simp)
  have HM2 : Hid (Fam X t w2) := HH.out.2.2.2.2.2.2.1.kept HG2.out (fun u hu => ⟨by simp, by simp, by simp⟩)
  clear HG2 HG1 HF1
  go_wp2
  go_loopw [6, 39] (fun vu vi wr => ∃ i : Nat, vi = .int .i64 i ∧ vu = .float .f64 (fl (upp X t d i)) ∧ i ≤ X.m ∧ w2 = wr) (fun _ vi _ => X.m - (intOf vi).toNat)
  case atStart => exact ⟨0, rfl, by show _ = Value.float _ (fl 0); rw [fl_zero], Nat.zero_le _, rfl⟩
  case round =>
    obtain ⟨i, rfl, rfl, hi, rfl⟩ := hrel
    have w11 := HW2.out.1.w11
    have w6 := HW2.out.1.w6
    by_cases hik : i < X.m
    · have hii : (i : Int) < (X.m : Int) := by omega
      have k0 := HW2.out.2.2.2.1 i hik
      have o0 := HW2.out.2.2.1 i hik
      have b0 := HW2.out.2.1 i hik
      by_cases hq : nextDoc (X.L i) (X.D i) t = (d : Int)
      · have hqd : (nextDoc (X.L i) (X.D i) t == (d : Int)) = true := by simp [hq]
        have hb1 : 1 ≤ X.boost i ∧ X.boost i ≤ 2 := by rw [G.bo]; split <;> omega
        have hb2 : X.boost i * 1000 ≤ 2 * 1000 := Nat.mul_le_mul_right _ hb1.2
        have hb3 : 1 * 1000 ≤ X.boost i * 1000 := Nat.mul_le_mul_right _ hb1.1
        have hu1 := upp_le G t d i
        have af := fun w => run_float_arith (P := Yba.prog) w .add 35 .f64 _ _ _ (add_fl (upp X t d i) (X.boost i * 1000) (by omega) (by omega))
        have HQ : Hid (nextDoc (X.L i) (X.D i) t = (d : Int)) := hq
        clear hb1 hb2 hb3 hu1 hq
        go_wp2
        go_roundw
        case measure => simp [intOf]; omega
        case rel => exact ⟨i + 1, rfl, by show _ = Value.float _ (fl (upp X t d i + (if _ then _ else _))); rw [if_pos HQ.out], by omega, by first | rfl | trivial⟩
      · have hqd : (nextDoc (X.L i) (X.D i) t == (d : Int)) = false := by simp [hq]
        have HQ : Hid (¬ nextDoc (X.L i) (X.D i) t = (d : Int)) := hq
        clear hq
        go_wp2
        go_roundw
        case measure => simp [intOf]; omega
        case rel => exact ⟨i + 1, rfl, by show _ = Value.float _ (fl (upp X t d i + (if _ then _ else _))); rw [if_neg HQ.out]; rfl, by omega, by first | rfl | trivial⟩
    · have hii : ¬ (i : Int) < (X.m : Int) := by omega
      obtain rfl : i = X.m := by omega
      have c4 := HC2.out.c4
      have w1 := HW2.out.1.w1
      cases hp : proh X d with
      | true =>
        have HP : Hid (proh X d = true) := hp
        go_wp2_with (go_at_call 30; refine (prohibited_any X G d w2.heap.size w2 HW2.out.2.2.2.2.2 (HM2.out.mono ht) (Nat.le_refl _)).mono ?_; rintro z w3 ⟨rfl, hg3, hf3, hF3⟩; rw [hp])
        refine bodyPost_ret (v := .tuple #[]) (by simp [results, Yba.results21, go_sem]) rfl ?_
        have hoff : offd X (d + 1) = offd X t := by
          rw [offd_succ, offd_to ht (none_between G HM.out.1), isM_at G ht HM.out.1 HM.out.2, HP.out]; simp
        have hsB : ∀ k, isS X k → k < B := fun k ⟨u, hu, e⟩ => by rw [e]; exact hU.sb u hu
        rw [hoff]
        exact ⟨rfl, v, h, HC2.out.frm hF3 G.ncb (fun k hk e => by have := hsB k e; omega), HH.out.2.2.2.2.2.2.2.2.1, HH.out.2.2.2.2.2.2.2.2.2, hf3, HF2.out.trans (hF3.mono (HC2.out.base) (fun k e => Or.inr e))⟩
      | false =>
        have HP : Hid (proh X d = false) := hp
        have hsB : ∀ k, isS X k → k < B := fun k ⟨u, hu, e⟩ => by rw [e]; exact hU.sb u hu
        have HSB : Hid (∀ k, isS X k → k < B) := hsB
        have htl : (offd X t).length ≤ 100000 := by have := offd_length X t; have := G.n1; omega
        have hup := upp_beats G HM.out.2
        have hlo := thr_low hli.1 HH.out.2.2.2.2.2.2.2.2.2
        clear hsB
        go_wp2_with (first
          | (go_at_call 30; refine (prohibited_any X G d w2.heap.size w2 HW2.out.2.2.2.2.2 (HM2.out.mono ht) (Nat.le_refl _)).mono ?_; rintro z w3 ⟨rfl, hg3, hf3, hF3⟩; rw [hp]; have HC3 : Hid (Coll X.cb X.limit v h (offd X t).length B w3) := HC2.out.frm hF3 G.ncb (fun k hk e => by have := HSB.out k e; omega); have HF3 : Hid (Frm B (Wr X) w w3) := HF2.out.trans (hF3.mono (HC2.out.base) (fun k e => Or.inr e)); have HX3 : Hid (Grp X w3 ∧ Fam X d w3) := ⟨hg3, hf3⟩; clear hg3 hf3 hF3)
          | (go_at_call 31; refine (count_any X.cb X.limit v h (offd X t).length B w3 HC3.out htl).mono ?_; rintro z w4 ⟨rfl, hc4, hg4⟩; have HC4 : Hid (Coll X.cb X.limit v h ((offd X t).length + 1) B w4 ∧ w3.grownBy w4 (some X.cb)) := ⟨hc4, hg4⟩; clear hc4 hg4)
          | (go_at_call 29; refine (beats_any X.cb X.limit v h ((offd X t).length + 1) B _ _ w4 HC4.out.1 hup hlo).mono ?_; rintro z w5 ⟨rfl, rfl⟩))
        have hF4 : Frm B (Wr X) w w4 := HF3.out.grown HC4.out.2 (fun k e => Or.inr (Or.inl (by injection e with e; exact e.symm))) HC3.out.base
        have hG4 : Grp X w4 := HX3.out.1.kept HC4.out.2 (fun e => (G.rc _ (rd_gb X)).1 (by injection e with e; exact e.symm)) (fun e => (G.rc _ (rd_clb X)).1 (by injection e with e; exact e.symm)) (fun e => (G.rc _ (rd_pb X)).1 (by injection e with e; exact e.symm))
        have hM4 : Fam X d w4 := HX3.out.2.kept HC4.out.2 (fun u hu => ⟨fun e => G.ncb ⟨u, hu, by injection e⟩, fun e => (G.rc _ (rd_db X hu)).1 (by injection e with e; exact e.symm), fun e => (G.rc _ (rd_fb X hu)).1 (by injection e with e; exact e.symm)⟩)
        have hW4 : Win X w4 := HH.out.1.wr G hF4 hU
        have hB4 : B ≤ w4.heap.size := HC4.out.1.base
        obtain ⟨σ, F, hin, hout⟩ := class_family (fun w' => Grp X w' ∧ Fam X d w' ∧ Frm w4.heap.size (isS X) w4 w')
        obtain ⟨s0, hs0⟩ := hout w4.drew ⟨hG4.kept (grown_drew _) (by simp) (by simp) (by simp), hM4.kept (grown_drew _) (fun u hu => ⟨by simp, by simp, by simp⟩), Frm.of (grown_drew _) (by simp) (Nat.le_refl _)⟩
        have b3 : ∀ s, (F s).cell? ⟨X.wb, 3, none⟩ = some (.int .i64 X.base) := fun s => (hin s).2.2.cell hW4.w3 (Nat.lt_of_lt_of_le hU.wb hB4) G.nwb
        have b1 : ∀ s, (F s).cell? ⟨X.wb, 1, none⟩ = some (.pointer (some ⟨X.gb, 0, none⟩)) := fun s => (hin s).2.2.cell hW4.w1 (Nat.lt_of_lt_of_le hU.wb hB4) G.nwb
        have hn1 := G.n1
        have hba := G.ba
        have hsc := sc_le G (d := d) (by omega)
        have hwr : IntKind.i64.wrap ((X.base : Int) + (d : Int)) = (X.base : Int) + (d : Int) := IntWalk.i64_in _ (by omega)
        have HIN : Hid ((∀ s, Grp X (F s) ∧ Fam X d (F s) ∧ Frm w4.heap.size (isS X) w4 (F s)) ∧ ∀ w', (Grp X w' ∧ Fam X d w' ∧ Frm w4.heap.size (isS X) w4 w') → ∃ s, w' = F s) := ⟨hin, hout⟩
        have HF4 : Hid (Frm B (Wr X) w w4) := hF4
        clear hin hout hF4 hG4 hM4 hW4 hlo hup c4 w1 w6 w11 r8
        haveI hne : Nonempty σ := ⟨s0⟩
        refine region_tail (C := fun w' => ∃ s, w' = F s) 16 (by kernel_rfl) (by kernel_rfl) ⟨s0, hs0⟩ ?_
        simp only [List.take_succ_cons, List.take_zero, List.drop_succ_cons, List.drop_zero]
        repeat (go_big_quiet_step ((go_at_call 33; refine (scoreAt_any X G d w4.heap.size _ (HIN.out.1 _).1 (HIN.out.1 _).2.1 (HIN.out.1 _).2.2.size (by omega)).mono ?_; rintro z w6 ⟨rfl, h1, h2, h3⟩; exact ⟨rfl, HIN.out.2 w6 ⟨h1, h2, (HIN.out.1 _).2.2.trans h3⟩⟩)))
        refine wpQuiet_nil ?_
        intro _ hw'
        obtain ⟨s, hw''⟩ := hw'
        subst hw''
        have HCs : Hid (Coll X.cb X.limit v h ((offd X t).length + 1) B (F s)) := HC4.out.1.frm (HIN.out.1 s).2.2 G.ncb (fun k hk e => by have := HSB.out k e; omega)
        clear b3 b1
        go_wp2_with (go_at_call 32; refine (offer_any X.cb X.limit v h ((offd X t).length + 1) B ((X.base : Int) + (d : Int), sc X d) (offd X t) (F s) HCs.out (by show sc X d < 1000; omega) hli HH.out.2.2.2.2.2.2.2.2.1 HH.out.2.2.2.2.2.2.2.2.2).mono ?_; rintro z w7 ⟨rfl, v7, h7, hc7, hk7, hs7, hf7⟩)
        refine bodyPost_ret (v := .tuple #[]) (by simp [results, Yba.results21, go_sem]) rfl ?_
        have hoff : offd X (d + 1) = offd X t ++ [((X.base : Int) + (d : Int), sc X d)] := by
          rw [offd_succ, offd_to ht (none_between G HM.out.1), isM_at G ht HM.out.1 HM.out.2, HP.out]; simp
        rw [hoff]
        have hfs : Frm B (Wr X) w (F s) := HF4.out.trans ((HIN.out.1 s).2.2.mono hB4 (fun k e => Or.inr e))
        refine ⟨rfl, v7, h7, by rw [List.length_append]; exact hc7, hk7, hs7, ?_, hfs.trans (hf7.mono (Nat.le_refl _) (fun k e => Or.inl e))⟩
        refine (HIN.out.1 s).2.1.frm hf7 (fun u hu => ⟨⟨hU.sb u hu, fun e => G.ncb ⟨u, hu, e.symm⟩⟩, ⟨hU.rd _ (rd_db X hu), (G.rc _ (rd_db X hu)).1⟩, ⟨hU.rd _ (rd_fb X hu), (G.rc _ (rd_fb X hu)).1⟩⟩)
end Go.Proofs.Ybulkchng
