/-
  (*window).collect.
-/
import Derived.Test.YbulkchngSplit
import Derived.Test.YbulkchngCons
import Derived.Test.YbulkchngRun
namespace Go.Proofs.Ybulkchng
open Go.RowKit
attribute [local go_sem] run_store_float

/-- Ahead of a window. -/
structure Ready (X : Cx) (lv v : Value) (h : Array Mt) (total B : Nat) (w : World) : Prop where
  win : Win X w
  grp : Grp X w
  col : Coll X.cb X.limit v h total B w
  w10 : w.cell? ⟨X.wb, 10, none⟩ = some lv
  w8 : ∃ x, w.cell? ⟨X.wb, 8, none⟩ = some x
  w9 : ∃ x, w.cell? ⟨X.wb, 9, none⟩ = some x
  eb : ∀ t, t < X.m → ∃ x, w.cell? ⟨X.bb, t, none⟩ = some x
  er : ∀ t, t < X.m → ∃ x, w.cell? ⟨X.rb, t, none⟩ = some x
  ek : ∀ t, t < X.m → ∃ x, w.cell? ⟨X.kb, t, none⟩ = some x
  sums : Sums lv w

theorem ex_cell {w w' : World} {a : Addr} {row : Option Nat} (hg : w.grownBy w' row) (h : ∃ x, w.cell? a = some x) (hn : some a.block ≠ row) : ∃ x, w'.cell? a = some x := by
  obtain ⟨x, hx⟩ := h
  exact ⟨x, hg.cell hx hn⟩

theorem Ready.still {X : Cx} {lv v : Value} {h : Array Mt} {total B : Nat} {w w' : World} (r : Ready X lv v h total B w) (hg : w.grownBy w' none) (hU : Under X B) : Ready X lv v h total B w' :=
  ⟨r.win.gr hg hU r.col.base (by simp), r.grp.kept hg (by simp) (by simp) (by simp), r.col.kept hg (by simp) (by simp), hg.cell r.w10 (by simp), ex_cell hg r.w8 (by simp), ex_cell hg r.w9 (by simp), fun t ht => ex_cell hg (r.eb t ht) (by simp), fun t ht => ex_cell hg (r.er t ht) (by simp), fun t ht => ex_cell hg (r.ek t ht) (by simp), by
    rcases r.sums with e | ⟨lb, lc, x, e, o⟩
    · exact Or.inl e
    · exact Or.inr ⟨lb, lc, x, e, World.ownsRow.kept o hg (Classical.em _)⟩⟩

theorem Ready.setB {X : Cx} (G : Good X) {lv v : Value} {h : Array Mt} {total B : Nat} {w : World} (r : Ready X lv v h total B w) (hU : Under X B) (hL : ∀ lb, lv.ownBlock = some lb → LbOk X lb B) (i : Nat) (x : Value) : Ready X lv v h total B (w.setCell ⟨X.bb, i, none⟩ x) := by
  have gs := grown_setCell w ⟨X.bb, i, none⟩ x
  have nw : X.wb ≠ X.bb := G.nd.2.2.2.2.1
  have nws : some X.wb ≠ some X.bb := fun e => nw (by injection e)
  have nb : ∀ b, Rd X b → b ≠ X.bb := fun b hb => (G.rc b hb).2.2.1
  refine ⟨r.win.set (nb _ (rd_ob X)).symm (fun e => absurd e.symm nw), r.grp.kept gs (fun q => nb _ (rd_gb X) (by injection q with q; exact q.symm)) (fun q => nb _ (rd_clb X) (by injection q with q; exact q.symm)) (fun q => nb _ (rd_pb X) (by injection q with q; exact q.symm)),
    r.col.kept gs (fun q => G.nd.2.1 (by injection q with q; exact q.symm)) (fun k q => by injection q with q; subst q; exact hU.bb), cell_setk r.w10 nw, ex_cell gs r.w8 nws, ex_cell gs r.w9 nws, fun t ht => ?_, fun t ht => ex_cell gs (r.er t ht) (fun e => G.nd.2.2.2.2.2.2.2.1 (by injection e with e; exact e.symm)), fun t ht => ex_cell gs (r.ek t ht) (fun e => G.nd.2.2.2.2.2.2.2.2.1 (by injection e with e; exact e.symm)), ?_⟩
  · obtain ⟨y, hy⟩ := r.eb t ht
    by_cases e : t = i
    · subst e; exact ⟨_, World.cell?_setCell_same _ _ _ hy⟩
    · exact ⟨y, cell_set_ne hy (Or.inr e)⟩
  · rcases r.sums with e | ⟨lb, lc, z, e, o⟩
    · exact Or.inl e
    · refine Or.inr ⟨lb, lc, z, e, World.ownsRow.kept o gs (Or.inr fun e' => ?_)⟩
      have := hL lb (by rw [e]; rfl)
      rw [e] at e'
      injection e' with e'
      exact this.bb e'
theorem Fam.setB {X : Cx} (G : Good X) {t : Nat} {w : World} (h : Fam X t w) (i : Nat) (x : Value) : Fam X t (w.setCell ⟨X.bb, i, none⟩ x) :=
  h.kept (grown_setCell w ⟨X.bb, i, none⟩ x) (fun u hu => ⟨fun q => G.nbb ⟨u, hu, by injection q⟩, fun q => (G.rc _ (rd_db X hu)).2.2.1 (by injection q with q; exact q.symm), fun q => (G.rc _ (rd_fb X hu)).2.2.1 (by injection q with q; exact q.symm)⟩)

theorem after_split {X : Cx} (G : Good X) {lv v : Value} {h : Array Mt} {total B lb lc : Nat} {w w' : World} (r : Ready X lv v h total B w) (hF : Fam X X.lo w) (hU : Under X B) (hL : ∀ lb, lv.ownBlock = some lb → LbOk X lb B) (hnil : lv = .slice none 0 0 → v = .slice none 0 0)
    (hW : Win X w') (hBn : Bnd X w') (hO : Ord X w') (hS : Spl X lb lc w') (ho : w'.ownsRow 0 35 1 (.slice (some ⟨lb, 0, none⟩) 1 lc) 1 [.float .f64 0]) (hat : lv.ownBlock = some lb ∨ (lv = .slice none 0 0 ∧ w.heap.size ≤ lb)) (hlt : lb < w'.heap.size) (hf : Frm w.heap.size (SpW X lv) w w') :
    ∃ B2, B ≤ B2 ∧ LbOk X lb B2 ∧ Run X lb lc v h total B2 w' ∧ Fam X X.lo w' ∧ (∀ t, t < X.m → ∃ x, w'.cell? ⟨X.kb, t, none⟩ = some x) ∧ Frm B (CoW X lv) w w' := by
  have hB := r.col.base
  have hUw := hU.mono hB
  have nR : ∀ k, Rd X k → ¬ SpW X lv k := fun k hk => by
    rintro (e | e | e)
    · exact (G.rc k hk).2.1 e
    · exact (G.rc k hk).2.2.2.1 e
    · exact (hL k e).nr hk
  have nS : ∀ k, isS X k → ¬ SpW X lv k := fun k hk => by
    rintro (e | e | e)
    · exact G.nwb (by rw [← e]; exact hk)
    · exact G.nrb (by rw [← e]; exact hk)
    · exact (hL k e).ns hk
  have nC : ¬ SpW X lv X.cb := by
    rintro (e | e | e)
    · exact G.nd.1 e
    · exact G.nd.2.2.1 e
    · exact (hL _ e).cb rfl
  have nK : ¬ SpW X lv X.kb := by
    rintro (e | e | e)
    · exact G.nd.2.2.2.2.2.2.1 e.symm
    · exact G.nd.2.2.2.2.2.2.2.2.2 e.symm
    · exact (hL _ e).kb rfl
  have g' : Grp X w' := r.grp.frm hf ⟨hUw.rd _ (rd_gb X), nR _ (rd_gb X)⟩ ⟨hUw.rd _ (rd_clb X), nR _ (rd_clb X)⟩ ⟨hUw.rd _ (rd_pb X), nR _ (rd_pb X)⟩
  have f' : Fam X X.lo w' := hF.frm hf (fun u hu => ⟨⟨hUw.sb u hu, nS _ ⟨u, hu, rfl⟩⟩, ⟨hUw.rd _ (rd_db X hu), nR _ (rd_db X hu)⟩, ⟨hUw.rd _ (rd_fb X hu), nR _ (rd_fb X hu)⟩⟩)
  have c' : Coll X.cb X.limit v h total B w' := r.col.frm hf nC (fun k hk => by
    rintro (e | e | e)
    · have := hU.wb; omega
    · have := hU.rb; omega
    · have := (hL k e).lt; omega)
  have k' : ∀ t, t < X.m → ∃ x, w'.cell? ⟨X.kb, t, none⟩ = some x := fun t ht => by
    obtain ⟨x, hx⟩ := r.ek t ht
    exact ⟨x, hf.cell hx hUw.kb nK⟩
  have fr : Frm B (CoW X lv) w w' := hf.mono hB (fun k => by
    rintro (e | e | e)
    · exact Or.inl e
    · exact Or.inr (Or.inr (Or.inr (Or.inl e)))
    · exact Or.inr (Or.inr (Or.inr (Or.inr (Or.inr (Or.inr e))))))
  rcases hat with e | ⟨e, hge⟩
  · exact ⟨B, Nat.le_refl _, hL lb e, ⟨hW, hBn, hO, hS, g', c', ho⟩, f', k', fr⟩
  · have hsz := hf.size
    have hv := hnil e
    subst hv
    have ne : ∀ k, k < B → lb ≠ k := fun k hk => by omega
    refine ⟨w'.heap.size, Nat.le_trans hB hsz, ⟨hlt, ne _ hU.cb, ne _ hU.wb, ne _ hU.bb, ne _ hU.rb, ne _ hU.kb, fun q => ?_, fun q => ?_⟩, ⟨hW, hBn, hO, hS, g', ⟨c'.c0, c'.c1, c'.c2, c'.c3, c'.c4, c'.c5, c'.fz, ⟨c'.own.1, ?_⟩, Nat.lt_of_lt_of_le c'.far c'.base, Nat.le_refl _⟩, ho⟩, f', k', fr⟩
    · exact ne _ (isS_lt hU q) rfl
    · exact ne _ (hU.rd _ q) rfl
    · rcases c'.own.2 with q | ⟨g, cap, cur, q, _⟩
      · exact Or.inl q
      · cases q

theorem nextDoc_ge {L : Lies} {D : Nat → Nat} (hu : Up L.n D) {t : Nat} (ht : t ≤ 100000) : (t : Int) ≤ nextDoc L D t := by
  unfold nextDoc docAt
  have h := (rk_spec hu t).2
  split
  · rcases h with h | h
    · omega
    · omega
  · omega

theorem Run.ready {X : Cx} {lb lc : Nat} {v : Value} {h : Array Mt} {total B t : Nat} {w : World} (r : Run X lb lc v h total B w) (hD : Docs X (fun _ => t) w) : Ready X (.slice (some ⟨lb, 0, none⟩) 1 lc) v h total B w :=
  ⟨r.win, r.grp, r.col, r.spl.s10, ⟨_, r.spl.s8⟩, ⟨_, r.spl.s9⟩, fun u hu => ⟨_, r.bnd u hu⟩, fun u hu => ⟨_, r.ord u hu⟩, fun u hu => ⟨_, hD u hu⟩, Or.inr ⟨lb, lc, _, rfl, r.own⟩⟩

theorem advance_to (L : Lies) (D S : Nat → Nat) (t : Nat) (T : Int) (hT : T = (t : Int)) (w : World) (h : Tends L D S t w) (hu : Up L.n D) (hn : L.n ≤ 2048) :
    Calls Yba.prog 59 #[.pointer (some ⟨L.sb, 0, none⟩), .int .i64 T] w fun e w' => e = .returned (.int .i64 (nextDoc L D t)) ∧ ScorAt L D S (rk L.n D t : Int) w' ∧ w.grownBy w' (some L.sb) := by
  subst hT
  exact advance_at L D S t w h hu hn

theorem nextDoc_step {L : Lies} {D : Nat → Nat} (hu : Up L.n D) {t d : Nat} (ht : t ≤ d) (hd : (d : Int) < nextDoc L D t) : nextDoc L D (d + 1) = nextDoc L D t := by
  unfold nextDoc
  rw [rk_step hu ht hd]

theorem method_bound (a : Addr) (w : World) : (method 208 28 (.pointer (some a)) "example.com/kvasir/kvasir.bound").run Yba.prog w = .ok (60, .pointer (some a)) w := by kernel_rfl
theorem nil_bound (a : Addr) (w : World) : (nilAhead 208 28 (.pointer (some a)) "example.com/kvasir/kvasir.bound").run Yba.prog w = .ok (some false) w := by kernel_rfl
theorem nil_advance (a : Addr) (w : World) : (nilAhead 208 28 (.pointer (some a)) "example.com/kvasir/kvasir.advance").run Yba.prog w = .ok (some false) w := by kernel_rfl

set_option maxHeartbeats 6400000 in
set_option maxRecDepth 100000 in
theorem collect_any (X : Cx) (G : Good X) (lv v : Value) (h : Array Mt) (B : Nat) (w : World) (r : Ready X lv v h (offd X X.lo).length B w) (hF : Fam X X.lo w) (hK : Kept X.limit (offd X X.lo) h) (hs : Small h) (hU : Under X B) (hL : ∀ lb, lv.ownBlock = some lb → LbOk X lb B) (hnil : lv = .slice none 0 0 → v = .slice none 0 0) (hlh : X.lo < X.hi) (hhn : X.hi ≤ X.n) :
    Calls Yba.prog 15 #[.pointer (some ⟨X.wb, 0, none⟩)] w fun e w' => e = .returned (.tuple #[]) ∧ ∃ lv' v' h' B', Ready X lv' v' h' (offd X X.hi).length B' w' ∧ Fam X X.hi w' ∧ Kept X.limit (offd X X.hi) h' ∧ Small h' ∧ B ≤ B' ∧ (∀ lb, lv'.ownBlock = some lb → LbOk X lb B') ∧ lv' ≠ .slice none 0 0 ∧ (∀ lb, lv'.ownBlock = some lb → lv.ownBlock = some lb ∨ w.heap.size ≤ lb) ∧ Frm B (CoW X lv) w w' := by
  have HH : Hid (Ready X lv v h (offd X X.lo).length B w ∧ Fam X X.lo w ∧ Kept X.limit (offd X X.lo) h ∧ Small h ∧ (∀ lb, lv.ownBlock = some lb → LbOk X lb B) ∧ (lv = .slice none 0 0 → v = .slice none 0 0)) := ⟨r, hF, hK, hs, hL, hnil⟩
  have w2 := r.win.w2
  have hm2 := G.m2
  have hn1 := G.n1
  clear r hF hK hs hL hnil
  go_enter Yba.func15, Yba.ntmps15
  go_wp2
  go_loopw [16] (fun vi wr => ∃ i : Nat, vi = .int .i64 i ∧ i ≤ X.m ∧ Ready X lv v h (offd X X.lo).length B wr ∧ Fam X X.lo wr ∧ (∀ t, t < i → wr.cell? ⟨X.bb, t, none⟩ = some (.float .f64 (fl (X.boost t * 1000)))) ∧ Frm B (CoW X lv) w wr) (fun vi _ => X.m - (intOf vi).toNat)
  case atStart => exact ⟨0, rfl, Nat.zero_le _, HH.out.1, HH.out.2.1, fun t ht => by omega, Frm.refl _ _ _⟩
  case round =>
    obtain ⟨i, rfl, hi1, hJ⟩ := hrel
    have HJ : Hid (Ready X lv v h (offd X X.lo).length B wr ∧ Fam X X.lo wr ∧ (∀ t, t < i → wr.cell? ⟨X.bb, t, none⟩ = some (.float .f64 (fl (X.boost t * 1000)))) ∧ Frm B (CoW X lv) w wr) := hJ
    clear hJ
    by_cases him : i < X.m
    · have hii : (i : Int) < (X.m : Int) := by omega
      have o0 := HJ.out.1.win.o0 i him
      have o1 := HJ.out.1.win.o1 i him
      have o2 := HJ.out.1.win.o2 i him
      unfold scv at o2
      unfold occ at o0
      rw [if_pos him] at o0
      have hmb := method_bound
      have hnb := nil_bound
      have hb1 : 1 ≤ X.boost i ∧ X.boost i ≤ 2 := by rw [G.bo]; split <;> omega
      have hmf : floatBits .mul .f64 (fl (X.boost i)) 4652007308841189376 = some (fl (X.boost i * 1000)) := by have := mul_fl (X.boost i) 1000 (by omega) (by omega) (by omega); rw [fl_1000] at this; exact this
      have mf := fun w => run_float_arith (P := Yba.prog) w .mul 35 .f64 _ _ _ hmf
      obtain ⟨Wa, hWa⟩ : ∃ Wa, Wa = wr.alloc (.cells #[.string { data := #[111, 112, 116, 105, 111, 110, 97, 108] }, .float .f64 (fl (X.boost i)), .iface 28 (.pointer (some ⟨(X.L i).sb, 0, none⟩))] 50) := ⟨_, rfl⟩
      have hgA : wr.grownBy Wa none := by rw [hWa]; exact World.grownBy_alloc _ _ none
      have q1 : Wa.cell? ⟨wr.heap.size, 1, none⟩ = some (.float .f64 (fl (X.boost i))) := by rw [hWa, World.cell?_alloc_new]; rfl
      have q2 : Wa.cell? ⟨wr.heap.size, 2, none⟩ = some (.iface 28 (.pointer (some ⟨(X.L i).sb, 0, none⟩))) := by rw [hWa, World.cell?_alloc_new]; rfl
      have HA : Hid (Ready X lv v h (offd X X.lo).length B Wa ∧ wr.grownBy Wa none) := ⟨HJ.out.1.still hgA hU, hgA⟩
      have HWa := hWa.symm
      clear hb1 hgA hWa hmf
      go_wp2
      clear o0 o1 o2
      have x4 := HA.out.1.win.w4
      have x5 := HA.out.1.win.w5
      have x6 := HA.out.1.win.w6
      have fb := HA.out.1.win.fb i
      obtain ⟨yb, hyb⟩ := HA.out.1.eb i him
      refine region_tail (C := fun w' => ∃ n, w' = Wa.drewN n) 21 (by kernel_rfl) (by kernel_rfl) ⟨1, rfl⟩ ?_
      simp only [List.take_succ_cons, List.take_zero, List.drop_succ_cons, List.drop_zero]
      repeat (go_big_quiet_step ((go_at_call 60; refine Calls.quiet_of_same ((bound_any _ _ _ _).mono (fun e w' h => ⟨h.1, h.2.symm⟩)))))
      refine wpQuiet_nil ?_
      intro _ hw'
      obtain ⟨nq, hw''⟩ := hw'
      subst hw''
      have g5 := grown_drewN Wa nq
      have hy5 := g5.cell hyb (by simp)
      have f5 : (Wa.drewN nq).frozen? ⟨X.bb, i, none⟩ = false := fb
      have HA5 : Hid (Ready X lv v h (offd X X.lo).length B (Wa.drewN nq) ∧ wr.grownBy (Wa.drewN nq) none) := ⟨HA.out.1.still g5 hU, HA.out.2.trans g5⟩
      clear x4 x5 x6 hyb fb q1 q2 g5
      generalize Wa.drewN nq = W5 at hy5 f5 HA5 ⊢
      go_wp2
      go_roundw
      case measure => simp [intOf]; omega
      case rel =>
        have gs := grown_setCell W5 ⟨X.bb, i, none⟩ (.float .f64 (fl (X.boost i * 1000)))
        have hbz := HJ.out.1.col.base
        refine ⟨i + 1, rfl, by omega, HA5.out.1.setB G hU HH.out.2.2.2.2.1 i _, (HJ.out.2.1.kept HA5.out.2 (fun u hu => ⟨by simp, by simp, by simp⟩)).setB G i _, fun t ht => ?_, (HJ.out.2.2.2.grown HA5.out.2 (by simp) hbz).grown gs (fun k e => Or.inr (by injection e with e; exact Or.inr (Or.inr (Or.inl e.symm)))) (Nat.le_trans hbz HA5.out.2.size)⟩
        by_cases e : t = i
        · subst e; exact World.cell?_setCell_same _ _ _ hy5
        · exact cell_set_ne (HA5.out.2.cell (HJ.out.2.2.1 t (by omega)) (by simp)) (Or.inr e)
    · have hii : ¬ (i : Int) < (X.m : Int) := by omega
      obtain rfl : i = X.m := by omega
      go_wp2_with (go_at_call 20; refine (split_any X G lv v h (offd X X.lo).length B wr HJ.out.1.win HJ.out.2.2.1 HJ.out.1.er HJ.out.1.w10 HJ.out.1.w8 HJ.out.1.w9 HJ.out.1.sums HH.out.2.2.2.2.1 HJ.out.1.col hU).mono ?_; rintro z w3 ⟨rfl, lb, lc, p1, p2, p3, p4, p5, p6, p7, p8⟩; obtain ⟨B2, hB2, hlb, hrun, hfam, hek, hfr⟩ := after_split G HJ.out.1 HJ.out.2.1 hU HH.out.2.2.2.2.1 HH.out.2.2.2.2.2 p1 p2 p3 p4 p5 p6 p7 p8; have HR3 : Hid (Run X lb lc v h (offd X X.lo).length B2 w3 ∧ Fam X X.lo w3 ∧ (∀ t, t < X.m → ∃ x, w3.cell? ⟨X.kb, t, none⟩ = some x) ∧ Frm B (CoW X lv) w w3) := ⟨hrun, hfam, hek, HJ.out.2.2.2.trans hfr⟩; have s8 := hrun.spl.s8; have HP6 : Hid (lv.ownBlock = some lb ∨ w.heap.size ≤ lb) := p6.imp id (fun q => Nat.le_trans HJ.out.2.2.2.size q.2); clear p1 p2 p3 p4 p5 p6 p7 p8 hrun hfam hek hfr)
      have hU2 : Under X B2 := hU.mono hB2
      clear HJ w2
      go_loopw [51] (fun vi wr => ∃ i : Nat, vi = .int .i64 i ∧ i ≤ X.m ∧ Run X lb lc v h (offd X X.lo).length B2 wr ∧ Fam X X.lo wr ∧ (∀ t, t < X.m → ∃ x, wr.cell? ⟨X.kb, t, none⟩ = some x) ∧ (∀ t, t < i → wr.cell? ⟨X.kb, t, none⟩ = some (.int .i64 (nextDoc (X.L t) (X.D t) X.lo))) ∧ Frm B (CoW X lv) w wr) (fun vi _ => X.m - (intOf vi).toNat)
      case atStart => exact ⟨0, rfl, Nat.zero_le _, HR3.out.1, HR3.out.2.1, HR3.out.2.2.1, fun t ht => by omega, HR3.out.2.2.2⟩
      case round =>
        clear HR3 s8
        obtain ⟨i, rfl, hi1, hJ⟩ := hrel
        have HJ : Hid (Run X lb lc v h (offd X X.lo).length B2 wr ∧ Fam X X.lo wr ∧ (∀ t, t < X.m → ∃ x, wr.cell? ⟨X.kb, t, none⟩ = some x) ∧ (∀ t, t < i → wr.cell? ⟨X.kb, t, none⟩ = some (.int .i64 (nextDoc (X.L t) (X.D t) X.lo))) ∧ Frm B (CoW X lv) w wr) := hJ
        clear hJ
        by_cases him : i < X.m
        · have hii : (i : Int) < (X.m : Int) := by omega
          have r0 := HJ.out.1.ord i him
          go_wp2
          obtain ⟨σ, F, hin, hout⟩ := class_family (fun w' => Fam X X.lo w' ∧ Frm wr.heap.size (isS X) wr w')
          obtain ⟨s0, hs0⟩ := hout wr.drew ⟨HJ.out.2.1.kept (grown_drew _) (fun u hu => ⟨by simp, by simp, by simp⟩), Frm.of (grown_drew _) (by simp) (Nat.le_refl _)⟩
          have hUW : Under X wr.heap.size := hU2.mono HJ.out.1.col.base
          have y11 : ∀ s, (F s).cell? ⟨X.wb, 11, none⟩ = some (.slice (some ⟨X.kb, 0, none⟩) X.m X.m) := fun s => (hin s).2.cell HJ.out.1.win.w11 hUW.wb G.nwb
          have y2 : ∀ s, (F s).cell? ⟨X.wb, 2, none⟩ = some (.slice (some ⟨X.ob, 0, none⟩) X.m X.oc) := fun s => (hin s).2.cell HJ.out.1.win.w2 hUW.wb G.nwb
          have y4 : ∀ s, (F s).cell? ⟨X.wb, 4, none⟩ = some (.int .i64 (X.lo : Int)) := fun s => (hin s).2.cell HJ.out.1.win.w4 hUW.wb G.nwb
          have yo : ∀ s, (F s).cell? ⟨X.ob, i * 3 + 2, none⟩ = some (.iface 28 (.pointer (some ⟨(X.L i).sb, 0, none⟩))) := fun s => (hin s).2.cell (HJ.out.1.win.o2 i him) (hUW.rd _ (rd_ob X)) (rd_ns G (rd_ob X))
          obtain ⟨yk, hyk⟩ := HJ.out.2.2.1 i him
          have yk1 : ∀ s, (F s).cell? ⟨X.kb, i, none⟩ = some yk := fun s => (hin s).2.cell hyk hUW.kb G.nkb
          have yk2 : ∀ s, (F s).frozen? ⟨X.kb, i, none⟩ = false := fun s => (hin s).2.frozen (HJ.out.1.win.fk i) hUW.kb G.nkb
          have HIN : Hid ((∀ s, Fam X X.lo (F s) ∧ Frm wr.heap.size (isS X) wr (F s)) ∧ ∀ w', (Fam X X.lo w' ∧ Frm wr.heap.size (isS X) wr w') → ∃ s, w' = F s) := ⟨hin, hout⟩
          have hiN : i < X.N := Nat.lt_of_lt_of_le him G.mN
          have hln := G.ln i hiN
          have hma := method_advance
          have hna := nil_advance
          haveI hne : Nonempty σ := ⟨s0⟩
          clear hin hout hyk
          refine region_tail (C := fun w' => ∃ s, w' = F s) 20 (by kernel_rfl) (by kernel_rfl) ⟨s0, hs0⟩ ?_
          simp only [List.take_succ_cons, List.take_zero, List.drop_succ_cons, List.drop_zero]
          repeat (go_big_quiet_step ((go_at_call 59; refine (advance_at (X.L i) (X.D i) (X.S i) X.lo _ ((HIN.out.1 _).1 i hiN) (G.up i hiN) (by omega)).mono ?_; rintro z w6 ⟨rfl, h1, h2⟩; exact ⟨rfl, HIN.out.2 w6 ⟨(HIN.out.1 _).1.step G hiN h2 (Tends.of h1), (HIN.out.1 _).2.grown h2 (fun k e => Or.inr ⟨i, hiN, by injection e with e; exact e.symm⟩) (HIN.out.1 _).2.size⟩⟩)))
          refine wpQuiet_nil ?_
          intro _ hw'
          obtain ⟨s, hw''⟩ := hw'
          subst hw''
          have yk3 := yk1 s
          have yk4 := yk2 s
          have HFs : Hid (Fam X X.lo (F s) ∧ Frm wr.heap.size (isS X) wr (F s)) := HIN.out.1 s
          clear y11 y2 y4 yo yk1 yk2
          generalize F s = W7 at yk3 yk4 HFs ⊢
          go_wp2
          go_roundw
          case measure => simp [intOf]; omega
          case rel =>
            have gs := grown_setCell W7 ⟨X.kb, i, none⟩ (.int .i64 (nextDoc (X.L i) (X.D i) X.lo))
            have hB7 : B ≤ wr.heap.size := Nat.le_trans hB2 HJ.out.1.col.base
            have gk : ∀ t y, t ≠ i → wr.cell? ⟨X.kb, t, none⟩ = some y → (W7.setCell ⟨X.kb, i, none⟩ (.int .i64 (nextDoc (X.L i) (X.D i) X.lo))).cell? ⟨X.kb, t, none⟩ = some y := fun t y ht hy => cell_set_ne (HFs.out.2.cell hy hUW.kb G.nkb) (Or.inr ht)
            refine ⟨i + 1, rfl, by omega, (HJ.out.1.adv G HFs.out.2 hU2 hlb).setK G hU2 hlb i _, HFs.out.1.setK G i _, fun t ht => ?_, fun t ht => ?_, (HJ.out.2.2.2.2.trans (HFs.out.2.mono hB7 (fun k e => Or.inr (Or.inr (Or.inr (Or.inr (Or.inr (Or.inl e)))))))).grown gs (fun k e => Or.inr (by injection e with e; exact Or.inr (Or.inr (Or.inr (Or.inr (Or.inl e.symm)))))) (Nat.le_trans hB7 HFs.out.2.size)⟩
            · by_cases e : t = i
              · subst e; exact ⟨_, World.cell?_setCell_same _ _ _ yk3⟩
              · obtain ⟨y, hy⟩ := HJ.out.2.2.1 t ht; exact ⟨y, gk t y e hy⟩
            · by_cases e : t = i
              · subst e; exact World.cell?_setCell_same _ _ _ yk3
              · exact gk t _ e (HJ.out.2.2.2.1 t (by omega))
        · have hii : ¬ (i : Int) < (X.m : Int) := by omega
          obtain rfl : i = X.m := by omega
          go_wp2
          go_loopg [6] (X.hi - X.lo) (fun k _ wy => ∃ (t : Nat) (v1 : Value) (h1 : Array Mt), t + k = X.hi ∧ X.lo ≤ t ∧ Run X lb lc v1 h1 (offd X t).length B2 wy ∧ Fam X t wy ∧ Docs X (fun _ => t) wy ∧ Kept X.limit (offd X t) h1 ∧ Small h1 ∧ Frm B (CoW X lv) w wy)
          case atStart => exact ⟨X.lo, v, h, by omega, Nat.le_refl _, HJ.out.1, HJ.out.2.1, HJ.out.2.2.2.1, HH.out.2.2.1, HH.out.2.2.2.1, HJ.out.2.2.2.2⟩
          case round =>
            clear HJ
            obtain ⟨t, v1, h1, htk, hlt, hO⟩ := hrel
            have HO : Hid (Run X lb lc v1 h1 (offd X t).length B2 wr ∧ Fam X t wr ∧ Docs X (fun _ => t) wr ∧ Kept X.limit (offd X t) h1 ∧ Small h1 ∧ Frm B (CoW X lv) w wr) := hO
            clear hO
            have s8 := HO.out.1.spl.s8
            go_wp2
            go_loopw [6, 82] (fun vd vi wx => ∃ (i : Nat) (dd : Int), vi = .int .i64 i ∧ vd = .int .i64 dd ∧ i ≤ X.m ∧ (∀ u, u < i → dd ≤ nextDoc (X.L u) (X.D u) t) ∧ (dd = 9223372036854775807 ∨ ∃ u, u < i ∧ nextDoc (X.L u) (X.D u) t = dd) ∧ wr = wx) (fun _ vi _ => X.m - (intOf vi).toNat)
            case atStart => exact ⟨0, _, rfl, rfl, Nat.zero_le _, fun u hu => by omega, Or.inl rfl, rfl⟩
            case round =>
              obtain ⟨i, dd, rfl, rfl, hi2, hmn, hdd, rfl⟩ := hrel
              have HM : Hid ((∀ u, u < i → dd ≤ nextDoc (X.L u) (X.D u) t) ∧ (dd = 9223372036854775807 ∨ ∃ u, u < i ∧ nextDoc (X.L u) (X.D u) t = dd)) := ⟨hmn, hdd⟩
              clear hmn hdd
              by_cases him : i < X.m
              · have hii : (i : Int) < (X.m : Int) := by omega
                have r0 := HO.out.1.ord i him
                have k0 := HO.out.2.2.1 i him
                have x11 := HO.out.1.win.w11
                go_wp2
                refine ⟨⟨i + 1, _, rfl, rfl, by omega, fun u hu => ?_, ?_, trivial⟩, by simp [intOf]; omega⟩
                · by_cases e : u = i
                  · subst e; split <;> omega
                  · have := HM.out.1 u (by omega); split <;> omega
                · split
                  · exact Or.inr ⟨i, by omega, rfl⟩
                  · rcases HM.out.2 with e | ⟨u, hu, e⟩
                    · exact Or.inl e
                    · exact Or.inr ⟨u, by omega, e⟩
              · have hii : ¬ (i : Int) < (X.m : Int) := by omega
                obtain rfl : i = X.m := by omega
                have x5 := HO.out.1.win.w5
                by_cases hge : (X.hi : Int) ≤ dd
                · go_wp2
                  refine bodyPost_ret (v := .tuple #[]) (by simp [results, Yba.results15, go_sem]) rfl ?_
                  have hoff : offd X X.hi = offd X t := offd_to (by omega) (none_between G (fun u hu => Int.le_trans hge (HM.out.1 u hu)))
                  rw [hoff]
                  refine ⟨rfl, _, v1, h1, B2, HO.out.1.ready HO.out.2.2.1, HO.out.2.1.mono (by omega), HO.out.2.2.2.1, HO.out.2.2.2.2.1, hB2, fun b e => ?_, (fun e => by cases e), fun b e => ?_, HO.out.2.2.2.2.2⟩
                  · injection e with e
                    subst e
                    exact hlb
                  · injection e with e
                    subst e
                    exact HP6.out
                · have hex : ∃ u, u < X.m ∧ nextDoc (X.L u) (X.D u) t = dd := by
                    rcases HM.out.2 with e | e
                    · omega
                    · exact e
                  have hdn : (t : Int) ≤ dd := by
                    obtain ⟨u, hu, e⟩ := hex
                    rw [← e]
                    exact nextDoc_ge (G.up u (Nat.lt_of_lt_of_le hu G.mN)) (by omega)
                  obtain ⟨d, rfl⟩ : ∃ d : Nat, dd = (d : Int) := ⟨dd.toNat, by omega⟩
                  have HD : Hid ((∀ u, u < X.m → (d : Int) ≤ nextDoc (X.L u) (X.D u) t) ∧ ∃ u, u < X.m ∧ nextDoc (X.L u) (X.D u) t = (d : Int)) := ⟨HM.out.1, hex⟩
                  have htd : t ≤ d := by omega
                  have hdh : d < X.hi := by omega
                  have hlt' : ¬ (X.hi : Int) ≤ (d : Int) := hge
                  clear hex hdn HM hge
                  go_wp2_with (go_at_call 21; refine (consider_any X G lb lc B2 t d v1 h1 wr HO.out.1.win HO.out.1.bnd HO.out.1.ord HO.out.2.2.1 HO.out.1.spl HO.out.1.grp HO.out.2.1 HO.out.1.col HO.out.2.2.2.1 HO.out.2.2.2.2.1 hU2 hlb htd (by omega) HD.out.1 HD.out.2).mono ?_; rintro z w4 ⟨rfl, v4, h4, hc4, hk4, hs4, hf4, hF4⟩; have HC4 : Hid (Run X lb lc v4 h4 (offd X (d + 1)).length B2 w4 ∧ Fam X d w4 ∧ Docs X (fun _ => t) w4 ∧ Kept X.limit (offd X (d + 1)) h4 ∧ Small h4 ∧ Frm B (CoW X lv) w w4) := ⟨HO.out.1.step G hF4 hU2 hlb hc4, hf4, HO.out.2.2.1.wr G hF4 hU2, hk4, hs4, HO.out.2.2.2.2.2.trans (hF4.mono hB2 (fun k e => e.elim (fun e => Or.inr (Or.inl e)) (fun e => Or.inr (Or.inr (Or.inr (Or.inr (Or.inr (Or.inl e)))))))) ⟩; have s84 := HC4.out.1.spl.s8; clear hc4 hk4 hs4 hf4 hF4)
                  go_loopw [110] (fun vi wx => ∃ i : Nat, vi = .int .i64 i ∧ i ≤ X.m ∧ Run X lb lc v4 h4 (offd X (d + 1)).length B2 wx ∧ Fam X (d + 1) wx ∧ Docs X (fun u => if u < i then d + 1 else t) wx ∧ Frm B (CoW X lv) w wx) (fun vi _ => X.m - (intOf vi).toNat)
                  case atStart => exact ⟨0, rfl, Nat.zero_le _, HC4.out.1, HC4.out.2.1.mono (by omega), fun u hu => by simpa using HC4.out.2.2.1 u hu, HC4.out.2.2.2.2.2⟩
                  case round =>
                    obtain ⟨i, rfl, hi3, hJ⟩ := hrel
                    have HJ : Hid (Run X lb lc v4 h4 (offd X (d + 1)).length B2 wr ∧ Fam X (d + 1) wr ∧ Docs X (fun u => if u < i then d + 1 else t) wr ∧ Frm B (CoW X lv) w wr) := hJ
                    clear hJ
                    by_cases him : i < X.m
                    · have hii : (i : Int) < (X.m : Int) := by omega
                      have r0 := HJ.out.1.ord i him
                      have x11 := HJ.out.1.win.w11
                      have k0 := HJ.out.2.2.1 i him
                      simp only [Nat.lt_irrefl, if_false] at k0
                      by_cases hq : nextDoc (X.L i) (X.D i) t = (d : Int)
                      · have hqd : (nextDoc (X.L i) (X.D i) t == (d : Int)) = true := by simp [hq]
                        have hwd : IntKind.i64.wrap ((d : Int) + 1) = (d : Int) + 1 := IntWalk.i64_in _ (by omega)
                        clear hq
                        go_wp2
                        clear r0 x11 k0
                        obtain ⟨σ, F, hin, hout⟩ := class_family (fun w' => Fam X (d + 1) w' ∧ Frm wr.heap.size (isS X) wr w')
                        obtain ⟨s0, hs0⟩ := hout wr.drew ⟨HJ.out.2.1.kept (grown_drew _) (fun u hu => ⟨by simp, by simp, by simp⟩), Frm.of (grown_drew _) (by simp) (Nat.le_refl _)⟩
                        have hUW : Under X wr.heap.size := hU2.mono HJ.out.1.col.base
                        have y11 : ∀ s, (F s).cell? ⟨X.wb, 11, none⟩ = some (.slice (some ⟨X.kb, 0, none⟩) X.m X.m) := fun s => (hin s).2.cell HJ.out.1.win.w11 hUW.wb G.nwb
                        have y2 : ∀ s, (F s).cell? ⟨X.wb, 2, none⟩ = some (.slice (some ⟨X.ob, 0, none⟩) X.m X.oc) := fun s => (hin s).2.cell HJ.out.1.win.w2 hUW.wb G.nwb
                        have y4 : ∀ s, (F s).cell? ⟨X.wb, 4, none⟩ = some (.int .i64 (X.lo : Int)) := fun s => (hin s).2.cell HJ.out.1.win.w4 hUW.wb G.nwb
                        have yo : ∀ s, (F s).cell? ⟨X.ob, i * 3 + 2, none⟩ = some (.iface 28 (.pointer (some ⟨(X.L i).sb, 0, none⟩))) := fun s => (hin s).2.cell (HJ.out.1.win.o2 i him) (hUW.rd _ (rd_ob X)) (rd_ns G (rd_ob X))
                        obtain ⟨yk, hyk⟩ : ∃ yk, wr.cell? ⟨X.kb, i, none⟩ = some yk := ⟨_, HJ.out.2.2.1 i him⟩
                        have yk1 : ∀ s, (F s).cell? ⟨X.kb, i, none⟩ = some yk := fun s => (hin s).2.cell hyk hUW.kb G.nkb
                        have yk2 : ∀ s, (F s).frozen? ⟨X.kb, i, none⟩ = false := fun s => (hin s).2.frozen (HJ.out.1.win.fk i) hUW.kb G.nkb
                        have HIN : Hid ((∀ s, Fam X (d + 1) (F s) ∧ Frm wr.heap.size (isS X) wr (F s)) ∧ ∀ w', (Fam X (d + 1) w' ∧ Frm wr.heap.size (isS X) wr w') → ∃ s, w' = F s) := ⟨hin, hout⟩
                        have hiN : i < X.N := Nat.lt_of_lt_of_le him G.mN
                        have hln := G.ln i hiN
                        have hma := method_advance
                        have hna := nil_advance
                        haveI hne : Nonempty σ := ⟨s0⟩
                        clear hin hout hyk
                        refine region_tail (C := fun w' => ∃ s, w' = F s) 16 (by kernel_rfl) (by kernel_rfl) ⟨s0, hs0⟩ ?_
                        simp only [List.take_succ_cons, List.take_zero, List.drop_succ_cons, List.drop_zero]
                        repeat (go_big_quiet_step ((go_at_call 59; refine (advance_to (X.L i) (X.D i) (X.S i) (d + 1) ((d : Int) + 1) (by first | rfl | omega) _ ((HIN.out.1 _).1 i hiN) (G.up i hiN) (by omega)).mono ?_; rintro z w6 ⟨rfl, h1, h2⟩; exact ⟨rfl, HIN.out.2 w6 ⟨(HIN.out.1 _).1.step G hiN h2 (Tends.of h1), (HIN.out.1 _).2.grown h2 (fun k e => Or.inr ⟨i, hiN, by injection e with e; exact e.symm⟩) (HIN.out.1 _).2.size⟩⟩)))
                        refine wpQuiet_nil ?_
                        intro _ hw'
                        obtain ⟨s, hw''⟩ := hw'
                        subst hw''
                        have yk3 := yk1 s
                        have yk4 := yk2 s
                        have HFs : Hid (Fam X (d + 1) (F s) ∧ Frm wr.heap.size (isS X) wr (F s)) := HIN.out.1 s
                        clear y11 y2 y4 yo yk1 yk2
                        generalize F s = W7 at yk3 yk4 HFs ⊢
                        go_wp2
                        go_roundw
                        case measure => simp [intOf]; omega
                        case rel =>
                          have gs := grown_setCell W7 ⟨X.kb, i, none⟩ (.int .i64 (nextDoc (X.L i) (X.D i) (d + 1)))
                          have hB7 : B ≤ wr.heap.size := Nat.le_trans hB2 HJ.out.1.col.base
                          refine ⟨i + 1, rfl, by omega, (HJ.out.1.adv G HFs.out.2 hU2 hlb).setK G hU2 hlb i _, HFs.out.1.setK G i _, fun u hu => ?_, (HJ.out.2.2.2.trans (HFs.out.2.mono hB7 (fun k e => Or.inr (Or.inr (Or.inr (Or.inr (Or.inr (Or.inl e)))))))).grown gs (fun k e => Or.inr (by injection e with e; exact Or.inr (Or.inr (Or.inr (Or.inr (Or.inl e.symm)))))) (Nat.le_trans hB7 HFs.out.2.size)⟩
                          by_cases e : u = i
                          · subst e
                            rw [World.cell?_setCell_same _ _ _ yk3]
                            simp
                          · rw [cell_set_ne (HFs.out.2.cell (HJ.out.2.2.1 u hu) hUW.kb G.nkb) (Or.inr e)]
                            have : (u < i + 1) = (u < i) := by simp; omega
                            simp only [this]
                      · have hqd : (nextDoc (X.L i) (X.D i) t == (d : Int)) = false := by simp [hq]
                        have HQ : Hid (¬ nextDoc (X.L i) (X.D i) t = (d : Int)) := hq
                        clear hq
                        go_wp2
                        go_roundw
                        case measure => simp [intOf]; omega
                        case rel =>
                          refine ⟨i + 1, rfl, by omega, HJ.out.1, HJ.out.2.1, fun u hu => ?_, HJ.out.2.2.2⟩
                          rw [HJ.out.2.2.1 u hu]
                          by_cases e : u = i
                          · subst e
                            have hlt2 : (d : Int) < nextDoc (X.L u) (X.D u) t := by have := HD.out.1 u hu; have := HQ.out; omega
                            simp only [Nat.lt_irrefl, if_false, Nat.lt_succ_self, if_true]
                            rw [nextDoc_step (G.up u (Nat.lt_of_lt_of_le hu G.mN)) htd hlt2]
                          · have : (u < i + 1) = (u < i) := by simp; omega
                            simp only [this]
                    · have hii : ¬ (i : Int) < (X.m : Int) := by omega
                      obtain rfl : i = X.m := by omega
                      go_wp2
                      go_roundg (X.hi - (d + 1))
                      case measure => omega
                      case rel =>
                        refine ⟨d + 1, v4, h4, by omega, by omega, HJ.out.1, HJ.out.2.1, fun u hu => ?_, HC4.out.2.2.2.1, HC4.out.2.2.2.2.1, HJ.out.2.2.2⟩
                        have := HJ.out.2.2.1 u hu
                        simpa [hu] using this
end Go.Proofs.Ybulkchng
