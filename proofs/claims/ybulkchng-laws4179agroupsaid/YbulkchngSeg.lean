/-
  (*collector).segment, the root no group.
-/
import Derived.Test.YbulkchngAsm2
namespace Go.Proofs.Ybulkchng
open Go.RowKit
attribute [local go_sem] run_store_float

theorem info50 : (Yba.prog.info? 50).map (fun i => (i.size, i.bytes, i.zero.map (fun z => z.cells.size))) = some (3, 40, some 3) := by kernel_rfl
theorem info_parts50 : ∃ i z, Yba.prog.info? 50 = some i ∧ i.zero = some z ∧ i.size = 3 ∧ i.bytes = 40 ∧ z.cells.size = 3 := by
  obtain ⟨i, hi, h⟩ := Option.map_eq_some_iff.1 info50
  simp only [Prod.mk.injEq] at h
  obtain ⟨z, hz, hzs⟩ := Option.map_eq_some_iff.1 h.2.2
  exact ⟨i, z, hi, hz, h.1, h.2.1, hzs⟩

theorem newWindow_any (m cb gb ob oc base : Nat) (hm : m = 1 ∨ m = 2) (w : World) :
    Calls Yba.prog 14 #[.pointer (some ⟨cb, 0, none⟩), .pointer (some ⟨gb, 0, none⟩), .slice (some ⟨ob, 0, none⟩) m oc, .int .i64 base] w fun e w' => e = .returned (.pointer (some ⟨w.heap.size, 0, none⟩)) ∧ ∃ bb rb kb, MadeW m cb gb ob oc base w.heap.size bb rb kb w' ∧ (w.heap.size < bb ∧ w.heap.size < rb ∧ w.heap.size < kb ∧ bb ≠ rb ∧ bb ≠ kb ∧ rb ≠ kb) ∧ w.grownBy w' none := by
  rcases hm with rfl | rfl
  · exact newWindow1 cb gb ob oc base w
  · exact newWindow2 cb gb ob oc base w

theorem assert_no (a : Addr) (w : World) : (Instr.typeAssert (.iface 28 (.pointer (some a))) 48 44 true).run Yba.prog w = .ok (.tuple #[.pointer none, .bool false]) w := by kernel_rfl
theorem assert_yes (a : Addr) (w : World) : (Instr.typeAssert (.iface 44 (.pointer (some a))) 48 44 true).run Yba.prog w = .ok (.tuple #[.pointer (some a), .bool true]) w := by kernel_rfl

theorem two_new (w : World) (A B : Obj) : ((w.alloc A).alloc B).heap[w.heap.size + 1]? = some B := by
  have s1 : (w.alloc A).heap.size = w.heap.size + 1 := by simp
  rw [← s1]; exact heap_alloc_new _ B

/-- The search as it stands behind newWindow. -/
structure Asm (Y X : Cx) (w w2 wr w3 : World) : Prop where
  eq : X.m = Y.m ∧ X.N = Y.N ∧ X.L = Y.L ∧ X.D = Y.D ∧ X.S = Y.S ∧ X.boost = Y.boost ∧ X.base = Y.base ∧ X.cb = Y.cb ∧ X.limit = Y.limit ∧ X.n = Y.n
  wb : wr.heap.size = X.wb
  lo : X.lo = 0
  good : Good X
  ready : Ready X (.slice none 0 0) (.slice none 0 0) #[] 0 w3.heap.size w3
  fam : Fam X 0 w3
  under : Under X w3.heap.size
  ge : w2.heap.size ≤ X.wb ∧ w2.heap.size ≤ X.bb ∧ w2.heap.size ≤ X.rb ∧ w2.heap.size ≤ X.kb
  grown : w.grownBy w3 none

/-- At the head of a window's round. -/
def SegR (X2 : Cx) (w : World) (k : Nat) (wy : World) : Prop := ∃ a b lv v h B, a + k = X2.n + 128 ∧ Ready (X2.at a b) lv v h (offd X2 (min a X2.n)).length B wy ∧ Fam X2 (min a X2.n) wy ∧ Kept X2.limit (offd X2 (min a X2.n)) h ∧ Small h ∧ Under X2 B ∧ (∀ lb, lv.ownBlock = some lb → LbOk X2 lb B ∧ w.heap.size ≤ lb) ∧ (lv = .slice none 0 0 → v = .slice none 0 0) ∧ Frm w.heap.size (Wr X2) w wy ∧ w.heap.size ≤ B

theorem Frm.cut {B B' : Nat} {Xs Xs' : Nat → Prop} {a b : World} (h : Frm B Xs a b) (hB : B' ≤ B) (hX : ∀ k, k < B' → Xs k → Xs' k) : Frm B' Xs' a b :=
  ⟨h.os, h.tape, h.output, h.size, fun k hk hx => h.block k (Nat.lt_of_lt_of_le hk hB) (fun q => hx (hX k hk q))⟩

/-- Behind a window. -/
def SegE (X2 : Cx) (w : World) (a hi : Nat) (wy : World) : Prop := ∃ lv v h B, Ready (X2.at a hi) lv v h (offd X2 hi).length B wy ∧ Fam X2 hi wy ∧ Kept X2.limit (offd X2 hi) h ∧ Small h ∧ Under X2 B ∧ (∀ lb, lv.ownBlock = some lb → LbOk X2 lb B ∧ w.heap.size ≤ lb) ∧ lv ≠ .slice none 0 0 ∧ Frm w.heap.size (Wr X2) w wy ∧ w.heap.size ≤ B

theorem win_call {X2 : Cx} (G : Good X2) {w wr : World} {a b B hi : Nat} {lv v : Value} {h : Array Mt} (hR : Ready (X2.at a b) lv v h (offd X2 (min a X2.n)).length B wr ∧ Fam X2 (min a X2.n) wr ∧ Kept X2.limit (offd X2 (min a X2.n)) h ∧ Small h ∧ Under X2 B ∧ (∀ lb, lv.ownBlock = some lb → LbOk X2 lb B ∧ w.heap.size ≤ lb) ∧ (lv = .slice none 0 0 → v = .slice none 0 0) ∧ Frm w.heap.size (Wr X2) w wr ∧ w.heap.size ≤ B)
    (ha : a < X2.n) (hhi : hi = min X2.n (a + 128)) (hge : w.heap.size ≤ X2.wb ∧ w.heap.size ≤ X2.bb ∧ w.heap.size ≤ X2.rb ∧ w.heap.size ≤ X2.kb) :
    Calls Yba.prog 15 #[.pointer (some ⟨X2.wb, 0, none⟩)] (wr.setCell ⟨X2.wb, 5, none⟩ (.int .i64 (hi : Int))) fun e w' => e = .returned (.tuple #[]) ∧ SegE X2 w a hi w' := by
  obtain ⟨r, f, k, sm, U, L, nl, F, hB⟩ := hR
  have hmin : min a X2.n = a := by omega
  rw [hmin] at r f k
  have r5 : Ready (X2.at a hi) lv v h (offd X2 a).length B (wr.setCell ⟨X2.wb, 5, none⟩ (.int .i64 (hi : Int))) := r.put (G.at a b) (U.at a b) (fun lb e => (L lb e).1.at a b) 5 hi a hi (Or.inr ⟨rfl, rfl, rfl⟩)
  have f5 : Fam X2 a (wr.setCell ⟨X2.wb, 5, none⟩ (.int .i64 (hi : Int))) := f.put G 5 _
  have F5 : Frm w.heap.size (Wr X2) w (wr.setCell ⟨X2.wb, 5, none⟩ (.int .i64 (hi : Int))) := F.grown (grown_setCell wr ⟨X2.wb, 5, none⟩ (.int .i64 (hi : Int))) (fun q e => Or.inl (by injection e with e; subst e; exact hge.1)) F.size
  have e1 := offd_at X2 a hi a
  have e2 := offd_at X2 a hi hi
  have hc := collect_any (X2.at a hi) (G.at a hi) lv v h B _ (show Ready (X2.at a hi) lv v h (offd (X2.at a hi) a).length B _ by rw [e1]; exact r5) f5 (show Kept X2.limit (offd (X2.at a hi) a) h by rw [e1]; exact k) sm (U.at a hi) (fun lb e => (L lb e).1.at a hi) nl (show a < hi by omega) (show hi ≤ X2.n by omega)
  refine hc.mono ?_
  rintro e w' ⟨rfl, lv', v', h', B', r', f', k', s', hBB, hL', hnn, hlb, hF⟩
  have hF5s := F5.size
  have r'' : Ready (X2.at a hi) lv' v' h' (offd (X2.at a hi) hi).length B' w' := r'
  have k'' : Kept X2.limit (offd (X2.at a hi) hi) h' := k'
  rw [e2] at r'' k''
  refine ⟨rfl, lv', v', h', B', r'', f', k'', s', U.mono hBB, fun lb e => ⟨(hL' lb e).un, ?_⟩, hnn, ?_, Nat.le_trans hB hBB⟩
  · rcases hlb lb e with q | q
    · exact (L lb q).2
    · omega
  · refine F5.trans (hF.cut hB (fun q hq hx => ?_))
    rcases hx with x | x | x | x | x | x | x
    · have x : q = X2.wb := x; omega
    · exact Or.inl x
    · have x : q = X2.bb := x; omega
    · have x : q = X2.rb := x; omega
    · have x : q = X2.kb := x; omega
    · exact Or.inr x
    · have := (L q x).2; omega

theorem SegE.next {X2 : Cx} (G : Good X2) {w wy : World} {a hi k : Nat} (h : SegE X2 w a hi wy) (ha : a < X2.n) (hhi : hi = min X2.n (a + 128)) (hk : a + 128 + k = X2.n + 128) (hge : w.heap.size ≤ X2.wb) : SegR X2 w k (wy.setCell ⟨X2.wb, 4, none⟩ (.int .i64 ((a : Int) + 128))) := by
  obtain ⟨lv, v, h, B, r, f, kp, sm, U, L, nl, F, hB⟩ := h
  have hmin : min (a + 128) X2.n = hi := by omega
  have ec : ((a : Int) + 128) = ((a + 128 : Nat) : Int) := by omega
  rw [ec]
  have r4 : Ready (X2.at (a + 128) hi) lv v h (offd X2 hi).length B (wy.setCell ⟨X2.wb, 4, none⟩ (.int .i64 ((a + 128 : Nat) : Int))) := r.put (G.at a hi) (U.at a hi) (fun lb e => (L lb e).1.at a hi) 4 (a + 128) (a + 128) hi (Or.inl ⟨rfl, rfl, rfl⟩)
  refine ⟨a + 128, hi, lv, v, h, B, hk, by rw [hmin]; exact r4, by rw [hmin]; exact f.put G 4 _, by rw [hmin]; exact kp, sm, U, L, fun e => absurd e nl, F.grown (grown_setCell wy ⟨X2.wb, 4, none⟩ _) (fun q e => Or.inl (by injection e with e; subst e; exact hge)) F.size, hB⟩

theorem Asm.eqn {Y X : Cx} {w w2 wr w3 : World} (h : Asm Y X w w2 wr w3) : X.n = Y.n := h.eq.2.2.2.2.2.2.2.2.2

theorem Asm.start {Y X : Cx} {w w2 wr w3 : World} (h : Asm Y X w w2 wr w3) (hg2 : w.heap.size ≤ w2.heap.size) : SegR X w (X.n + 128) (w3.setCell ⟨X.wb, 4, none⟩ (.int .i64 0)) := by
  have hr := h.ready.put h.good h.under (fun lb e => by cases e) 4 0 0 X.hi (Or.inl ⟨rfl, rfl, rfl⟩)
  have e0 : offd X (min 0 X.n) = [] := by rw [Nat.zero_min]; rfl
  have gs := grown_setCell w3 ⟨X.wb, 4, none⟩ (.int .i64 0)
  have hws := h.grown.size
  refine ⟨0, X.hi, .slice none 0 0, .slice none 0 0, #[], w3.heap.size, by omega, by rw [e0]; exact hr, ?_, by rw [e0]; exact Kept.start _, (fun t ht => by simp at ht), h.under, (fun lb e => by cases e), fun _ => rfl, ?_, hws⟩
  · rw [Nat.zero_min]; exact h.fam.put h.good 4 _
  · refine (Frm.of h.grown (by simp) (Nat.le_refl _)).grown gs (fun k e => Or.inl ?_) hws
    injection e with e
    subst e
    exact Nat.le_trans hg2 h.ge.1

theorem head_single {X X1 : Cx} {w W1 w2 : World} (s : Sem X) (hc : Coll X.cb X.limit (.slice none 0 0) #[] 0 w.heap.size w) (hF : Fam X 0 w) (hdb : ∀ u, u < X.N → (X.L u).db ≤ w.heap.size ∧ (X.L u).fb ≤ w.heap.size) (hX : X1 = { X with clb := w.heap.size, cc := 1 }) (hN : X1.N = 1) (hm : X1.m = 1) (hC : Cls X1 W1) (hg1 : w.grownBy W1 none) (hs1 : W1.heap.size = w.heap.size + 1) (hM : Mk X1 W1.heap.size 1 w2) (hg2 : W1.grownBy w2 none) :
    Sem X1 ∧ Mk X1 W1.heap.size X1.N w2 ∧ Cls X1 w2 ∧ w.grownBy w2 none ∧ (X1.cb = X.cb ∧ X1.base = X.base ∧ X1.n = X.n ∧ X1.limit = X.limit ∧ X1.m = X.m ∧ X1.N = X.N ∧ X1.L = X.L ∧ X1.D = X.D ∧ X1.S = X.S ∧ X1.boost = X.boost) ∧ Coll X1.cb X1.limit (.slice none 0 0) #[] 0 w.heap.size w2 ∧ Fam X1 0 w2 ∧ (W1.heap.size ≠ X1.cb ∧ ¬ isS X1 W1.heap.size) ∧ (X1.clb ≠ X1.cb ∧ ¬ isS X1 X1.clb) ∧ (∀ pv k, w2.cell? ⟨W1.heap.size, 3, none⟩ = some pv → pv.ownBlock = some k → k ≠ X1.cb ∧ ¬ isS X1 k) ∧ (∀ u, u < X1.N → (X1.L u).db ≤ w2.heap.size ∧ (X1.L u).fb ≤ w2.heap.size) := by
  have gA := hg1.trans hg2
  have hsz := gA.size
  have hcb := hc.far
  have hsb : ∀ k, isS X k → k < w.heap.size := fun k ⟨u, hu, e⟩ => by
    obtain ⟨q, h1, _⟩ := hF u hu
    rw [e]; exact World.block_lt_of_cell? w _ h1.c0
  obtain ⟨pv, p1, p2, p3⟩ := hM.pv
  have hpn := p3 (by omega)
  rw [hpn] at p1
  have hp : ∀ pv k, w2.cell? ⟨W1.heap.size, 3, none⟩ = some pv → pv.ownBlock = some k → k ≠ X1.cb ∧ ¬ isS X1 k := fun pv' k h1 h2 => by
    rw [p1] at h1
    injection h1 with h1
    rw [← h1] at h2
    cases h2
  rw [hN]
  refine ⟨?_, hM, hC.kept hg2, gA, ?_, ?_, ?_, ?_, ?_, hp, fun u hu => ?_⟩
  · subst hX; exact ⟨s.m0, s.mN, s.N3, s.up, s.dn, s.sc, s.ln, s.bo, s.m2, s.n1, s.ba, s.li, s.ss, s.sd, s.sf, s.cs, s.cd⟩
  · rw [← hN]; subst hX; exact ⟨rfl, rfl, rfl, rfl, rfl, rfl, rfl, rfl, rfl, rfl⟩
  · subst hX; exact hc.kept gA (by simp) (by simp)
  · subst hX; exact hF.kept gA (fun u hu => ⟨by simp, by simp, by simp⟩)
  · subst hX; exact ⟨by show W1.heap.size ≠ X.cb; omega, fun e => by have := hsb _ e; omega⟩
  · subst hX; exact ⟨by show w.heap.size ≠ X.cb; omega, fun e => by have : w.heap.size < w.heap.size := hsb _ e; omega⟩
  · rw [← hN] at hu
    subst hX
    have := hdb u hu
    exact ⟨Nat.le_trans this.1 hsz, Nat.le_trans this.2 hsz⟩

set_option maxHeartbeats 1000000 in
set_option maxRecDepth 100000 in
theorem segment_single (X : Cx) (s : Sem X) (hN : X.N = 1) (hm : X.m = 1) (w : World) (hc : Coll X.cb X.limit (.slice none 0 0) #[] 0 w.heap.size w) (hF : Fam X 0 w) (hdb : ∀ u, u < X.N → (X.L u).db ≤ w.heap.size ∧ (X.L u).fb ≤ w.heap.size) :
    Calls Yba.prog 6 #[.pointer (some ⟨X.cb, 0, none⟩), scv X 0, .int .i64 X.base, .int .i64 X.n] w fun e w' => e = .returned (.tuple #[]) ∧ ∃ v h B, Coll X.cb X.limit v h (offd X X.n).length B w' ∧ Kept X.limit (offd X X.n) h ∧ Small h ∧ Frm w.heap.size (Wr X) w w' := by
  obtain ⟨i0, z0, hi0, hz0, hz1, hz2, hz3⟩ := info_parts50
  have HH : Hid (Sem X ∧ Coll X.cb X.limit (.slice none 0 0) #[] 0 w.heap.size w ∧ Fam X 0 w ∧ X.N = 1 ∧ X.m = 1 ∧ ∀ u, u < X.N → (X.L u).db ≤ w.heap.size ∧ (X.L u).fb ≤ w.heap.size) := ⟨s, hc, hF, hN, hm, hdb⟩
  obtain ⟨W1, hW1⟩ : ∃ W1, W1 = w.alloc (.cells #[.string { data := #[111, 112, 116, 105, 111, 110, 97, 108] }, .float .f64 4607182418800017408, .iface 28 (.pointer (some ⟨(X.L 0).sb, 0, none⟩))] 50) := ⟨_, rfl⟩
  have hg1 : w.grownBy W1 none := by rw [hW1]; exact World.grownBy_alloc _ _ none
  have hb1 : W1.heap[w.heap.size]? = some (.cells #[.string { data := #[111, 112, 116, 105, 111, 110, 97, 108] }, .float .f64 4607182418800017408, .iface 28 (.pointer (some ⟨(X.L 0).sb, 0, none⟩))] 50 (0, 0)) := by rw [hW1]; exact heap_alloc_new _ _
  have hs1 : W1.heap.size = w.heap.size + 1 := by rw [hW1]; simp
  obtain ⟨X1, hX1⟩ : ∃ X1 : Cx, X1 = { X with clb := w.heap.size, cc := 1 } := ⟨_, rfl⟩
  have HC1 : Hid (Cls X1 W1) := (by
    have h0 : ∀ t, t < X1.N → t = 0 := fun t ht => by rw [hX1] at ht; simp only [hN] at ht; omega
    have e1 : X1.boost 0 = 1 := by rw [hX1]; show X.boost 0 = 1; rw [s.bo]; rfl
    have e2 : X1.clb = w.heap.size := by rw [hX1]
    have e3 : X1.m = 1 := by rw [hX1]; exact hm
    have e4 : X1.L = X.L := by rw [hX1]
    refine ⟨fun t ht => ?_, fun t ht => ?_, fun t ht => ?_⟩
    · obtain rfl := h0 t ht
      rw [e2, cell_of_row _ _ 0 _ 50 (0, 0) hb1]; unfold occ; rw [e3, if_pos (by omega)]; rfl
    · obtain rfl := h0 t ht
      rw [e2, cell_of_row _ _ 1 _ 50 (0, 0) hb1, e1]; rfl
    · obtain rfl := h0 t ht
      rw [e2, cell_of_row _ _ 2 _ 50 (0, 0) hb1]; unfold scv; rw [e4]; rfl)
  have hng := newGroup_any X1 W1 (by rw [hX1]; show X.N ≤ 3; omega) HC1.out
  have e5 : X1.N = 1 := by rw [hX1]; exact hN
  have e6 : X1.cc = 1 := by rw [hX1]
  have e7 : X1.clb = w.heap.size := by rw [hX1]
  have e8 : X1.m = 1 := by rw [hX1]; exact hm
  rw [e7, e5, e6] at hng
  have HNG : Hid (Calls Yba.prog 9 #[.slice (some ⟨w.heap.size, 0, none⟩) 1 1] W1 fun e w' => e = .returned (.pointer (some ⟨W1.heap.size, 0, none⟩)) ∧ Mk X1 W1.heap.size 1 w' ∧ W1.grownBy w' none) := hng
  have HX1 : Hid (X1 = { X with clb := w.heap.size, cc := 1 } ∧ X1.N = 1 ∧ X1.m = 1 ∧ X1.clb = w.heap.size ∧ X1.cc = 1) := ⟨hX1, e5, e8, e7, e6⟩
  have HG1 : Hid (w.grownBy W1 none ∧ W1.heap.size = w.heap.size + 1) := ⟨hg1, hs1⟩
  have HW1 := hW1.symm
  have han := assert_no
  clear s hc hF hN hm hdb hX1 hng e5 e6 e7 e8 hW1 hb1 hg1 hs1
  unfold scv
  go_enter Yba.func6, Yba.ntmps6
  go_wp2_with (go_at_call 9; refine HNG.out.mono ?_; rintro z w2 ⟨rfl, hM2, hg2⟩; have HT : Hid (Sem X1 ∧ Mk X1 W1.heap.size X1.N w2 ∧ Cls X1 w2 ∧ w.grownBy w2 none ∧ (X1.cb = X.cb ∧ X1.base = X.base ∧ X1.n = X.n ∧ X1.limit = X.limit ∧ X1.m = X.m ∧ X1.N = X.N ∧ X1.L = X.L ∧ X1.D = X.D ∧ X1.S = X.S ∧ X1.boost = X.boost) ∧ Coll X1.cb X1.limit (.slice none 0 0) #[] 0 w.heap.size w2 ∧ Fam X1 0 w2 ∧ (W1.heap.size ≠ X1.cb ∧ ¬ isS X1 W1.heap.size) ∧ (X1.clb ≠ X1.cb ∧ ¬ isS X1 X1.clb) ∧ (∀ pv k, w2.cell? ⟨W1.heap.size, 3, none⟩ = some pv → pv.ownBlock = some k → k ≠ X1.cb ∧ ¬ isS X1 k) ∧ (∀ u, u < X1.N → (X1.L u).db ≤ w2.heap.size ∧ (X1.L u).fb ≤ w2.heap.size)) := head_single HH.out.1 HH.out.2.1 HH.out.2.2.1 HH.out.2.2.2.2.2 HX1.out.1 HX1.out.2.1 HX1.out.2.2.1 HC1.out HG1.out.1 HG1.out.2 hM2 hg2; have g0 := hM2.g0; clear hM2 hg2)
  go_loopw [10, 39] (fun cv vi wr => ∃ (i : Nat) (uv : Value), uv = cv ∧ vi = .int .i64 i ∧ i ≤ X1.N ∧ wr.ownsRow w2.heap.size 50 3 uv (min i X1.m) (cls X1 (min i X1.m)) ∧ w2.grownBy wr none) (fun _ vi _ => X1.N - (intOf vi).toNat)
  case atStart => exact ⟨0, _, rfl, rfl, Nat.zero_le _, by rw [Nat.zero_min]; exact World.ownsRow_nil _ _ _ _, grown_refl _ _⟩
  case round =>
    obtain ⟨i, uv, rfl, rfl, hi, hO, hG⟩ := hrel
    have HO : Hid (wr.ownsRow w2.heap.size 50 3 uv (min i X1.m) (cls X1 (min i X1.m)) ∧ w2.grownBy wr none) := ⟨hO, hG⟩
    clear hO hG
    have hN3 := HT.out.1.N3
    by_cases hiN : i < X1.N
    · have hii : (i : Int) < (X1.N : Int) := by omega
      have k0 := HO.out.2.cell (HT.out.2.2.1.k0 i hiN) (by simp)
      have k1 := HO.out.2.cell (HT.out.2.2.1.k1 i hiN) (by simp)
      have k2 := HO.out.2.cell (HT.out.2.2.1.k2 i hiN) (by simp)
      unfold scv at k2
      unfold occ at k0
      by_cases him : i < X1.m
      · rw [if_pos him] at k0
        have hmin : min i X1.m = i := by omega
        have hmin2 : min (i + 1) X1.m = i + 1 := by omega
        have ho := HO.out.1
        rw [hmin] at ho
        have HOi : Hid (wr.ownsRow w2.heap.size 50 3 uv i (cls X1 i)) := ho
        clear ho hmin
        have hsw := HO.out.2.size
        have hml : i + 1 ≤ maxLen := by unfold maxLen; omega
        go_wp2_with (at_builtin; refine wpList_append_lies _ (by rfl) (.tmp 46) (.tmp 48) 51 (by rfl) w2.heap.size 50 i0 z0 3 40 Yba.underlying51 hi0 hz0 hz1 hz2 hz3 (by omega) uv i (cls X1 i) (by rfl) (World.ownsRow.kept HOi.out ((World.grownBy_alloc _ _ none).trans (World.grownBy_alloc _ _ none)) (Classical.em _)) ⟨wr.heap.size + 1, 0, none⟩ 1 1 [.string { data := #[111, 112, 116, 105, 111, 110, 97, 108] }, .float .f64 (fl (X1.boost i)), .iface 28 (.pointer (some ⟨(X1.L i).sb, 0, none⟩))] (by rfl) (by rfl) (World.news_of_block (cs := #[.string { data := #[111, 112, 116, 105, 111, 110, 97, 108] }, .float .f64 (fl (X1.boost i)), .iface 28 (.pointer (some ⟨(X1.L i).sb, 0, none⟩))]) (t := 50) (fr := (0, 0)) (two_new _ _ _)) (by simp [Value.oneCell']) (by omega) hml (by omega) (by simp; omega) (wr.heap.size + 1 + 1) (by simp) ?_; intro g5 c5 w5 hown5 hgrow5 hat5 hlt5; have HO5 : Hid (w5.ownsRow w2.heap.size 50 3 (.slice (some ⟨g5, 0, none⟩) (i + 1) c5) (i + 1) (cls X1 i ++ [.string { data := #[111, 112, 116, 105, 111, 110, 97, 108] }, .float .f64 (fl (X1.boost i)), .iface 28 (.pointer (some ⟨(X1.L i).sb, 0, none⟩))]) ∧ w2.grownBy w5 none) := ⟨hown5, grown_rows (HO.out.2.trans ((World.grownBy_alloc _ _ none).trans (World.grownBy_alloc _ _ none))) hgrow5 (fun k e => (World.ownsRow.lt HOi.out k e).1)⟩; clear hown5 hgrow5 hat5 hlt5)
        go_roundw
        case measure => simp [intOf]; omega
        case rel =>
          refine ⟨i + 1, _, rfl, rfl, by omega, ?_, HO5.out.2⟩
          rw [hmin2, cls_succ]
          have e : cl3 X1 i = [.string { data := #[111, 112, 116, 105, 111, 110, 97, 108] }, .float .f64 (fl (X1.boost i)), .iface 28 (.pointer (some ⟨(X1.L i).sb, 0, none⟩))] := by unfold cl3 occ scv; rw [if_pos him]
          rw [e]; exact HO5.out.1
      · rw [if_neg him] at k0
        go_wp2
        go_roundw
        case measure => simp [intOf]; omega
        case rel =>
          refine ⟨i + 1, uv, rfl, rfl, by omega, ?_, HO.out.2.trans (World.grownBy_alloc _ _ none)⟩
          have e : min (i + 1) X1.m = min i X1.m := by omega
          rw [e]
          exact World.ownsRow.kept HO.out.1 (World.grownBy_alloc _ _ none) (Classical.em _)
    · have hii : ¬ (i : Int) < (X1.N : Int) := by omega
      obtain rfl : i = X1.N := by omega
      have hm0 := HT.out.1.m0
      have hmN := HT.out.1.mN
      have hm2 := HT.out.1.m2
      have hminE : min X1.N X1.m = X1.m := by omega
      have ho := HO.out.1
      rw [hminE] at ho
      obtain ⟨ob, oc, e, _, _⟩ := World.ownsRow.form ho hm0
      subst e
      have HOe : Hid (wr.ownsRow w2.heap.size 50 3 (.slice (some ⟨ob, 0, none⟩) X1.m oc) X1.m (cls X1 X1.m) ∧ w2.grownBy wr none) := ⟨ho, HO.out.2⟩
      have hmm : X1.m = 1 ∨ X1.m = 2 := by omega
      have HMM : Hid (X1.m = 1 ∨ X1.m = 2) := hmm
      have hq4 : (X1.m : Int) / 4 = 0 := by omega
      clear ho hminE HO hmm hm0 hmN hm2
      go_wp2_with (go_at_call 14; refine (newWindow_any X1.m X.cb W1.heap.size ob oc X.base HMM.out wr).mono ?_; rintro z w3 ⟨rfl, bb, rb, kb, hW3, hd3, hg3⟩; have HW3 : Hid (MadeW X1.m X.cb W1.heap.size ob oc X.base wr.heap.size bb rb kb w3 ∧ (wr.heap.size < bb ∧ wr.heap.size < rb ∧ wr.heap.size < kb ∧ bb ≠ rb ∧ bb ≠ kb ∧ rb ≠ kb) ∧ wr.grownBy w3 none) := ⟨hW3, hd3, hg3⟩; have HAS : Hid (∃ X2 : Cx, Asm X1 X2 w w2 wr w3) := (by obtain ⟨X2, q1, q2, q3, q4, q5, q6, q7, q8, q9⟩ := assemble (w3 := w3) HT.out.1 HT.out.2.1 HT.out.2.2.1 HOe.out.1 HOe.out.2 (by rw [HT.out.2.2.2.2.1.1, HT.out.2.2.2.2.1.2.1]; exact hW3) hd3 hg3 HT.out.2.2.2.2.2.1 HT.out.2.2.2.2.2.2.1 HT.out.2.2.2.2.2.2.2.1 HT.out.2.2.2.2.2.2.2.2.1 HT.out.2.2.2.2.2.2.2.2.2.1 HT.out.2.2.2.2.2.2.2.2.2.2; exact ⟨X2, q1, q2.symm, q3, q4, q5, q6, q7, q9, HT.out.2.2.2.1.trans (HOe.out.2.trans hg3)⟩); obtain ⟨X2, hA⟩ := HAS.out; have HA : Hid (Asm X1 X2 w w2 wr w3) := hA; have x4 : w3.cell? ⟨wr.heap.size, 4, none⟩ = some (.int .i64 0) := (by rw [hA.wb]; have := hA.ready.win.w4; rw [hA.lo] at this; exact this); have f4 : w3.frozen? ⟨wr.heap.size, 4, none⟩ = false := (by rw [hA.wb]; exact hA.ready.win.fw 4); clear hA HAS hW3 hd3 hg3 HW3)
      rw [HA.out.wb] at x4 f4 ⊢
      have HWs : Hid (w.heap.size ≤ w2.heap.size) := HT.out.2.2.2.1.size
      have HXn : Hid (X1.n = X.n) := HT.out.2.2.2.2.1.2.2.1
      have HEQ : Hid (X1.cb = X.cb ∧ X1.base = X.base ∧ X1.n = X.n ∧ X1.limit = X.limit ∧ X1.m = X.m ∧ X1.N = X.N ∧ X1.L = X.L ∧ X1.D = X.D ∧ X1.S = X.S ∧ X1.boost = X.boost) := HT.out.2.2.2.2.1
      clear HT HOe HMM hq4 g0
      go_loopg [65] (X2.n + 128) (fun k _ wy => SegR X2 w k wy)
      case atStart => exact HA.out.start HWs.out
      case round =>
        clear x4 f4
        obtain ⟨a, b, lv, v, h, B, hak, hR⟩ := hrel
        have HR : Hid (Ready (X2.at a b) lv v h (offd X2 (min a X2.n)).length B wr ∧ Fam X2 (min a X2.n) wr ∧ Kept X2.limit (offd X2 (min a X2.n)) h ∧ Small h ∧ Under X2 B ∧ (∀ lb, lv.ownBlock = some lb → LbOk X2 lb B ∧ w.heap.size ≤ lb) ∧ (lv = .slice none 0 0 → v = .slice none 0 0) ∧ Frm w.heap.size (Wr X2) w wr ∧ w.heap.size ≤ B) := hR
        clear hR
        have x4 : wr.cell? ⟨X2.wb, 4, none⟩ = some (.int .i64 (a : Int)) := HR.out.1.win.w4
        have x5 : wr.cell? ⟨X2.wb, 5, none⟩ = some (.int .i64 (b : Int)) := HR.out.1.win.w5
        have f4 : wr.frozen? ⟨X2.wb, 4, none⟩ = false := HR.out.1.win.fw 4
        have f5 : wr.frozen? ⟨X2.wb, 5, none⟩ = false := HR.out.1.win.fw 5
        have hXn : Hid (X2.n = X.n) := HA.out.eqn.trans HXn.out
        have hn1 := HA.out.good.n1
        rw [hXn.out] at hak hn1
        by_cases han : a < X.n
        · have hai : (a : Int) < (X.n : Int) := by omega
          obtain ⟨hi, hhi⟩ : ∃ hi : Nat, (if (a : Int) + 128 < (X.n : Int) then (a : Int) + 128 else (X.n : Int)) = (hi : Int) := by
            split
            · exact ⟨a + 128, by omega⟩
            · exact ⟨X.n, rfl⟩
          have HHI : Hid (hi = min X.n (a + 128)) := (by
            show hi = min X.n (a + 128)
            split at hhi <;> omega)
          have HGe : Hid (w.heap.size ≤ X2.wb ∧ w.heap.size ≤ X2.bb ∧ w.heap.size ≤ X2.rb ∧ w.heap.size ≤ X2.kb) := (by
            have h1 := HA.out.ge
            have h2 := HWs.out
            exact ⟨by omega, by omega, by omega, by omega⟩)
          go_wp2_with (go_at_call 15; refine (win_call HA.out.good HR.out (by rw [hXn.out]; exact han) (by rw [hXn.out]; exact HHI.out) HGe.out).mono ?_; rintro z w5 ⟨rfl, hE5⟩; have HE5 : Hid (SegE X2 w a hi w5) := hE5; have y4 : w5.cell? ⟨X2.wb, 4, none⟩ = some (.int .i64 (a : Int)) := (by obtain ⟨_, _, _, _, r, _⟩ := hE5; exact r.win.w4); have y4f : w5.frozen? ⟨X2.wb, 4, none⟩ = false := (by obtain ⟨_, _, _, _, r, _⟩ := hE5; exact r.win.fw 4); clear hE5)
          go_roundg (X2.n + 128 - (a + 128))
          case measure => rw [hXn.out]; omega
          case rel =>
            exact HE5.out.next HA.out.good (by rw [hXn.out]; exact han) (by rw [hXn.out]; exact HHI.out) (by rw [hXn.out]; omega) HGe.out.1
        · have hai : ¬ (a : Int) < (X.n : Int) := by omega
          go_wp2
          go_end0
          have hmin : min a X2.n = X.n := by rw [hXn.out]; omega
          have hq := HR.out
          rw [hmin] at hq
          obtain ⟨r, f, k, sm, U, L, nl, F, hB⟩ := hq
          have eo : offd X2 X.n = offd X X.n := offd_like (HA.out.eq.1.trans HEQ.out.2.2.2.2.1) (HA.out.eq.2.1.trans HEQ.out.2.2.2.2.2.1) (HA.out.eq.2.2.1.trans HEQ.out.2.2.2.2.2.2.1) (HA.out.eq.2.2.2.1.trans HEQ.out.2.2.2.2.2.2.2.1) (HA.out.eq.2.2.2.2.1.trans HEQ.out.2.2.2.2.2.2.2.2.1) (HA.out.eq.2.2.2.2.2.1.trans HEQ.out.2.2.2.2.2.2.2.2.2) (HA.out.eq.2.2.2.2.2.2.1.trans HEQ.out.2.1) _
          rw [eo] at r k
          have c := r.col
          have ecb : X2.cb = X.cb := HA.out.eq.2.2.2.2.2.2.2.1.trans HEQ.out.1
          have eli : X2.limit = X.limit := HA.out.eq.2.2.2.2.2.2.2.2.1.trans HEQ.out.2.2.2.1
          have eL : X2.L = X.L := HA.out.eq.2.2.1.trans HEQ.out.2.2.2.2.2.2.1
          have eN : X2.N = X.N := HA.out.eq.2.1.trans HEQ.out.2.2.2.2.2.1
          have c' : Coll X2.cb X2.limit v h (offd X X.n).length B wr := c
          rw [ecb, eli] at c'
          rw [eli] at k
          refine ⟨rfl, v, h, ⟨B, c'⟩, k, sm, F.mono (Nat.le_refl _) (fun q e => ?_)⟩
          rcases e with e | ⟨u, hu, e⟩
          · exact Or.inl (by rw [← ecb]; exact e)
          · exact Or.inr ⟨u, by rw [← eN]; exact hu, by rw [← eL]; exact e⟩
end Go.Proofs.Ybulkchng
