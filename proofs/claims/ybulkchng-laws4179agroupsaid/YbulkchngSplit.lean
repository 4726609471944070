/-
  (*window).split.
-/
import Derived.Test.YbulkchngInts
import Derived.Test.YbulkchngBuild
import Derived.Deep.DeepCutAuto
import Derived.Deep.DeepAppendRoom
namespace Go.Proofs.Ybulkchng
open Go.RowKit
attribute [local go_sem] run_store_float

theorem cell_set_ne {w : World} {k o k' o' : Nat} {x v : Value} (h : w.cell? ⟨k', o', none⟩ = some v) (hne : k' ≠ k ∨ o' ≠ o) : (w.setCell ⟨k, o, none⟩ x).cell? ⟨k', o', none⟩ = some v := by
  rw [World.cell?_setCell_other _ _ _ _ (fun e => by
    have h1 := congrArg Addr.block e; have h2 := congrArg Addr.off e
    simp at h1 h2
    rcases hne with h | h
    · exact h h1.symm
    · exact h h2.symm)]
  exact h

theorem Win.set {X : Cx} {w : World} (g : Win X w) {k o : Nat} {x : Value} (h1 : k ≠ X.ob) (h2 : k = X.wb → o = 8 ∨ o = 9 ∨ o = 10) : Win X (w.setCell ⟨k, o, none⟩ x) := by
  have hw : ∀ o', (o' ≠ 8 ∧ o' ≠ 9 ∧ o' ≠ 10) → X.wb ≠ k ∨ o' ≠ o := fun o' ho => by
    by_cases e : k = X.wb
    · have := h2 e; right; omega
    · left; exact Ne.symm e
  refine ⟨cell_set_ne g.w0 (hw _ (by decide)), cell_set_ne g.w1 (hw _ (by decide)), cell_set_ne g.w2 (hw _ (by decide)), cell_set_ne g.w3 (hw _ (by decide)), cell_set_ne g.w4 (hw _ (by decide)), cell_set_ne g.w5 (hw _ (by decide)), cell_set_ne g.w6 (hw _ (by decide)), cell_set_ne g.w7 (hw _ (by decide)), cell_set_ne g.w11 (hw _ (by decide)),
    fun t ht => cell_set_ne (g.o0 t ht) (Or.inl (Ne.symm h1)), fun t ht => cell_set_ne (g.o1 t ht) (Or.inl (Ne.symm h1)), fun t ht => cell_set_ne (g.o2 t ht) (Or.inl (Ne.symm h1)), fun i => by rw [World.frozen?_setCell]; exact g.fw i, fun i => by rw [World.frozen?_setCell]; exact g.fb i, fun i => by rw [World.frozen?_setCell]; exact g.fr i, fun i => by rw [World.frozen?_setCell]; exact g.fk i⟩

theorem Win.gr {X : Cx} {B : Nat} {w w' : World} {row : Option Nat} (g : Win X w) (hg : w.grownBy w' row) (hU : Under X B) (hB : B ≤ w.heap.size) (h : ∀ k, row = some k → k ≠ X.wb ∧ k ≠ X.ob ∧ k ≠ X.bb ∧ k ≠ X.rb ∧ k ≠ X.kb) : Win X w' :=
  g.frm (Frm.of (B := B) (X := fun k => row = some k) hg (fun _ e => Or.inr e) hB) ⟨hU.wb, fun e => (h _ e).1 rfl⟩ ⟨hU.rd _ (rd_ob X), fun e => (h _ e).2.1 rfl⟩ ⟨hU.bb, fun e => (h _ e).2.2.1 rfl⟩ ⟨hU.rb, fun e => (h _ e).2.2.2.1 rfl⟩ ⟨hU.kb, fun e => (h _ e).2.2.2.2 rfl⟩

/-- What split writes. -/
def SpW (X : Cx) (lv : Value) (k : Nat) : Prop := k = X.wb ∨ k = X.rb ∨ lv.ownBlock = some k

/-- The slice of sums: none yet, or one of a block of its own. -/
def Sums (lv : Value) (w : World) : Prop := lv = .slice none 0 0 ∨ ∃ lb lc x, lv = .slice (some ⟨lb, 0, none⟩) 1 lc ∧ w.ownsRow 0 35 1 lv 1 [x]

theorem Sums.cut {lb lc : Nat} {x : Value} {w : World} (h : w.ownsRow 0 35 1 (.slice (some ⟨lb, 0, none⟩) 1 lc) 1 [x]) : w.ownsRow 0 35 1 (.slice (some ⟨lb, 0, none⟩) 0 lc) 0 [] := by
  rcases h.2 with ⟨e, _⟩ | ⟨g, cap, cur, e, r1, r2, r3, r4, r5, r6⟩
  · cases e
  · injection e with e1 e2 e3
    injection e1 with e1
    injection e1 with e1
    subst e1; subst e3
    exact ⟨by simp, Or.inr ⟨lb, lc, cur, rfl, Nat.zero_le _, r2, Nat.zero_le _, r4, r5, by simp⟩⟩

theorem own_cap {lb lc : Nat} {x : Value} {w : World} (h : w.ownsRow 0 35 1 (.slice (some ⟨lb, 0, none⟩) 1 lc) 1 [x]) : 0 + 1 ≤ lc := by
  rcases h.2 with ⟨e, _⟩ | ⟨g, cap, cur, e, r1, r2, r3, r4, r5, r6⟩
  · cases e
  · injection e with e1 e2 e3
    omega

/-- An append within the room, at a step of a region that draws. -/
theorem step_append_spare {P : Program} (w : World) {ops : Array Oper} {o : Oper} {a : Act} {K : Act → World → Prop} {Q : Exit → Act → World → Prop} {E : Prop} (hgd : o.guard = none) (s x : Operand) (t : TypeId)
    (ho : o.op = .call { callee := .builtin .append, args := #[s, x], argTypes := #[t, t] })
    (base : Nat) (e : TypeId) (i : TypeInfo) (size : Nat) (ht : P.underlying t = some (.slice e)) (hi : P.info? e = some i) (hsize : i.size = size)
    (g n cap : Nat) (xs : List Value) (hs : a.eval s = .slice (some ⟨g, 0, none⟩) n cap) (hown : w.ownsRow base e size (.slice (some ⟨g, 0, none⟩) n cap) n xs)
    (ad : Addr) (m c : Nat) (news : List Value) (hx : a.eval x = .slice (some ad) m c) (hl : news.length = m * size) (hnews : ∀ j u, news[j]? = some u → w.cell? (ad.add j) = some u) (h1 : ∀ u ∈ news, u.oneCell' = true)
    (hroom : n + m ≤ cap)
    (h : ∀ w', w'.ownsRow base e size (.slice (some ⟨g, 0, none⟩) (n + m) cap) (n + m) (xs ++ news) → w.grownBy w' (some g) → K (a.put o.dst (.slice (some ⟨g, 0, none⟩) (n + m) cap)) w') :
    if Region.wanted o (yielded ops a.tmps) = true then Oper.wp P o a w K Q else E := by
  have hw : Region.wanted o (yielded ops a.tmps) = true := by simp [Region.wanted, hgd]
  rw [if_pos hw]
  exact wp_append_own_spare w s x t ho base e i size ht hi hsize g n cap xs hs hown ad m c news hx hl hnews h1 hroom h

theorem own_cell0 {lb lc : Nat} {x : Value} {w : World} (h : w.ownsRow 0 35 1 (.slice (some ⟨lb, 0, none⟩) 1 lc) 1 [x]) : w.cell? ⟨lb, 0, none⟩ = some x := by
  rcases h.2 with ⟨e, _⟩ | ⟨g, cap, cur, e, r1, r2, r3, r4, r5, r6⟩
  · cases e
  · injection e with e1 e2 e3
    injection e1 with e1
    injection e1 with e1
    subst e1
    rw [cell_of_row _ _ 0 _ 35 (0, 0) r2]
    have : (cur.toList.take (1 * 1))[0]? = some x := by rw [r6]; rfl
    rw [List.getElem?_take] at this
    simpa using this

/-- Behind the sums' store. -/
def SplR (X : Cx) (lv : Value) (v : Value) (h : Array Mt) (total B : Nat) (w wx : World) : Prop := ∃ lb lc, wx.cell? ⟨X.wb, 10, none⟩ = some (.slice (some ⟨lb, 0, none⟩) 1 lc) ∧ wx.ownsRow 0 35 1 (.slice (some ⟨lb, 0, none⟩) 1 lc) 1 [.float .f64 0] ∧ (lv.ownBlock = some lb ∨ (lv = .slice none 0 0 ∧ w.heap.size ≤ lb)) ∧ lb < wx.heap.size ∧
  Win X wx ∧ Bnd X wx ∧ Ord X wx ∧ wx.cell? ⟨w.heap.size, 0, none⟩ = some (.pointer (some ⟨X.wb, 0, none⟩)) ∧ (∃ x, wx.cell? ⟨X.wb, 8, none⟩ = some x) ∧ (∃ x, wx.cell? ⟨X.wb, 9, none⟩ = some x) ∧ Coll X.cb X.limit v h total B wx ∧ Frm w.heap.size (SpW X lv) w wx

theorem sums_done {X : Cx} (G : Good X) {lv lv0 v : Value} {h : Array Mt} {total B gg cap2 : Nat} {w w3 Wz w4 : World} (hlv : lv0.ownBlock = lv.ownBlock) (hW : Win X w3) (hB : Bnd X w3) (hO : Ord X w3) (hq : w3.cell? ⟨w.heap.size, 0, none⟩ = some (.pointer (some ⟨X.wb, 0, none⟩)))
    (h10 : ∃ x, w3.cell? ⟨X.wb, 10, none⟩ = some x) (h8 : ∃ x, w3.cell? ⟨X.wb, 8, none⟩ = some x) (h9 : ∃ x, w3.cell? ⟨X.wb, 9, none⟩ = some x) (hC : Coll X.cb X.limit v h total B w3) (hF : Frm w.heap.size (SpW X lv) w w3) (hU : Under X B) (hL : ∀ lb, lv.ownBlock = some lb → LbOk X lb B) (hbw : B ≤ w.heap.size)
    (g1 : w3.grownBy Wz none) (g2 : Wz.grownBy w4 lv0.ownBlock) (hz : Wz.heap.size = w3.heap.size + 1) (ho : w4.ownsRow 0 35 1 (.slice (some ⟨gg, 0, none⟩) 1 cap2) 1 [.float .f64 0]) (hat : lv.ownBlock = some gg ∨ (lv = .slice none 0 0 ∧ gg = w3.heap.size + 1)) (hlt : gg < w4.heap.size) :
    SplR X lv v h total B w (w4.setCell ⟨X.wb, 10, none⟩ (.slice (some ⟨gg, 0, none⟩) 1 cap2)) := by
  have hB3 := hC.base
  have hBz : B ≤ Wz.heap.size := by omega
  have row : ∀ k, lv0.ownBlock = some k → LbOk X k B := fun k e => hL k (by rw [← hlv]; exact e)
  have cel : ∀ {b o : Nat} {x : Value}, w3.cell? ⟨b, o, none⟩ = some x → (∀ k, lv0.ownBlock = some k → b ≠ k) → w4.cell? ⟨b, o, none⟩ = some x := fun {b o x} hc hn => keepC hc g1 g2 (fun e => hn _ e.symm rfl)
  have nwb : ∀ k, lv0.ownBlock = some k → X.wb ≠ k := fun k e => (row k e).wb.symm
  have hs3 := hF.size
  have nq : ∀ k, lv0.ownBlock = some k → w.heap.size ≠ k := fun k e => by have := (row k e).lt; omega
  have ngg : gg ≠ X.wb := by
    rcases hat with e | e
    · exact (hL _ e).wb
    · have := hU.wb; omega
  have W4 : Win X w4 := (hW.gr g1 hU hB3 (by simp)).gr g2 hU hBz (fun k e => ⟨(row k e).wb, fun q => (row k e).nr (by rw [q]; exact rd_ob X), (row k e).bb, (row k e).rb, (row k e).kb⟩)
  have C4 : Coll X.cb X.limit v h total B w4 := (hC.kept g1 (by simp) (by simp)).kept g2 (fun e => (row _ e).cb rfl) (fun k e => (row k e).lt)
  have gs := grown_setCell w4 ⟨X.wb, 10, none⟩ (.slice (some ⟨gg, 0, none⟩) 1 cap2)
  have F4 : Frm w.heap.size (SpW X lv) w w4 := (hF.grown g1 (by simp) hF.size).grown g2 (fun k e => Or.inr (Or.inr (Or.inr (by rw [← hlv]; exact e)))) (by omega)
  have hw4 := F4.size
  obtain ⟨x10, hx10⟩ := h10
  refine ⟨gg, cap2, World.cell?_setCell_same _ _ _ (cel hx10 nwb), World.ownsRow.kept ho gs (Or.inr fun e => ngg (by injection e)), ?_, by simpa [World.setCell] using hlt, W4.set (G.rc _ (rd_ob X)).2.1.symm (fun _ => by omega), fun t ht => cell_set_ne (cel (hB t ht) (fun k e => (row k e).bb.symm)) (Or.inl G.nd.2.2.2.2.1.symm), fun t ht => cell_set_ne (cel (hO t ht) (fun k e => (row k e).rb.symm)) (Or.inl G.nd.2.2.2.2.2.1.symm), cell_set_ne (cel hq nq) (Or.inl (by have := hU.wb; omega)), ?_, ?_, C4.kept gs (fun e => G.nd.1 (by injection e with e; exact e.symm)) (fun k e => by injection e with e; subst e; exact hU.wb), F4.grown gs (fun k e => Or.inr (by injection e with e; exact Or.inl e.symm)) hw4⟩
  · rcases hat with e | e
    · exact Or.inl e
    · exact Or.inr ⟨e.1, by omega⟩
  · obtain ⟨y, hy⟩ := h8; exact ⟨y, cell_set_ne (cel hy nwb) (Or.inr (by omega))⟩
  · obtain ⟨y, hy⟩ := h9; exact ⟨y, cell_set_ne (cel hy nwb) (Or.inr (by omega))⟩

set_option maxHeartbeats 6400000 in
set_option maxRecDepth 100000 in
theorem split_any (X : Cx) (G : Good X) (lv : Value) (v : Value) (h : Array Mt) (total B : Nat) (w : World) (hW : Win X w) (hBn : Bnd X w) (hR : ∀ t, t < X.m → ∃ x, w.cell? ⟨X.rb, t, none⟩ = some x) (hlv : w.cell? ⟨X.wb, 10, none⟩ = some lv) (h8 : ∃ x, w.cell? ⟨X.wb, 8, none⟩ = some x) (h9 : ∃ x, w.cell? ⟨X.wb, 9, none⟩ = some x)
    (hS : Sums lv w) (hL : ∀ lb, lv.ownBlock = some lb → LbOk X lb B) (hC : Coll X.cb X.limit v h total B w) (hU : Under X B) :
    Calls Yba.prog 20 #[.pointer (some ⟨X.wb, 0, none⟩)] w fun e w' => e = .returned (.tuple #[]) ∧ ∃ lb lc, Win X w' ∧ Bnd X w' ∧ Ord X w' ∧ Spl X lb lc w' ∧ w'.ownsRow 0 35 1 (.slice (some ⟨lb, 0, none⟩) 1 lc) 1 [.float .f64 0] ∧ (lv.ownBlock = some lb ∨ (lv = .slice none 0 0 ∧ w.heap.size ≤ lb)) ∧ lb < w'.heap.size ∧ Frm w.heap.size (SpW X lv) w w' := by
  obtain ⟨i35, z35, hi35, hx0, hx1, hx2, hx3⟩ := info_parts35
  obtain ⟨W1, hW1⟩ : ∃ W1, W1 = w.alloc (.cells #[.pointer (some ⟨X.wb, 0, none⟩)] 64) := ⟨_, rfl⟩
  have hg1 : w.grownBy W1 none := by rw [hW1]; exact World.grownBy_alloc _ _ none
  have q0 : W1.cell? ⟨w.heap.size, 0, none⟩ = some (.pointer (some ⟨X.wb, 0, none⟩)) := by rw [hW1, World.cell?_alloc_new]; rfl
  have hs1 : W1.heap.size = w.heap.size + 1 := by rw [hW1]; simp
  have hbase := hC.base
  have hwbl : X.wb < w.heap.size := Nat.lt_of_lt_of_le hU.wb hbase
  have hrbl : X.rb < w.heap.size := Nat.lt_of_lt_of_le hU.rb hbase
  have nd := G.nd
  have hm2 := G.m2
  have HI : Hid (Win X W1 ∧ Bnd X W1 ∧ (∀ t, t < X.m → ∃ x, W1.cell? ⟨X.rb, t, none⟩ = some x) ∧ W1.cell? ⟨X.wb, 10, none⟩ = some lv ∧ (∃ x, W1.cell? ⟨X.wb, 8, none⟩ = some x) ∧ (∃ x, W1.cell? ⟨X.wb, 9, none⟩ = some x) ∧ Sums lv W1 ∧ Coll X.cb X.limit v h total B W1 ∧ Frm w.heap.size (SpW X lv) w W1) := (by
    refine ⟨hW.gr hg1 hU hbase (by simp), fun t ht => hg1.cell (hBn t ht) (by simp), fun t ht => ?_, hg1.cell hlv (by simp), ?_, ?_, ?_, hC.kept hg1 (by simp) (by simp), Frm.of hg1 (by simp) (Nat.le_refl _)⟩
    · obtain ⟨x, hx⟩ := hR t ht; exact ⟨x, hg1.cell hx (by simp)⟩
    · obtain ⟨x, hx⟩ := h8; exact ⟨x, hg1.cell hx (by simp)⟩
    · obtain ⟨x, hx⟩ := h9; exact ⟨x, hg1.cell hx (by simp)⟩
    · rcases hS with e | ⟨lb, lc, x, e, o⟩
      · exact Or.inl e
      · exact Or.inr ⟨lb, lc, x, e, World.ownsRow.kept o hg1 (Classical.em _)⟩)
  have HL : Hid (∀ lb, lv.ownBlock = some lb → LbOk X lb B) := hL
  have HS1 : Hid (W1.heap.size = w.heap.size + 1) := hs1
  have HQ : Hid (W1.cell? ⟨w.heap.size, 0, none⟩ = some (.pointer (some ⟨X.wb, 0, none⟩))) := q0
  have HW1 := hW1.symm
  clear hW hBn hR hlv h8 h9 hS hL hC hg1 hW1 hs1
  have c4 := HI.out.2.2.2.2.2.2.2.1.c4
  have w0 := HI.out.1.w0
  have w7 := HI.out.1.w7
  go_enter Yba.func20, Yba.ntmps20
  go_wp2_with (go_at_call 24; refine (inf_any _).mono ?_; rintro z w2 ⟨rfl, rfl⟩)
  go_loopw [3, 25] (fun _ vi wr => ∃ i : Nat, vi = .int .i64 i ∧ i ≤ X.m ∧ Win X wr ∧ Bnd X wr ∧ (∀ t, t < i → wr.cell? ⟨X.rb, t, none⟩ = some (.int .i64 (t : Int))) ∧ (∀ t, t < X.m → ∃ x, wr.cell? ⟨X.rb, t, none⟩ = some x) ∧ wr.cell? ⟨w.heap.size, 0, none⟩ = some (.pointer (some ⟨X.wb, 0, none⟩)) ∧ wr.cell? ⟨X.wb, 10, none⟩ = some lv ∧ (∃ x, wr.cell? ⟨X.wb, 8, none⟩ = some x) ∧ (∃ x, wr.cell? ⟨X.wb, 9, none⟩ = some x) ∧ Sums lv wr ∧ Coll X.cb X.limit v h total B wr ∧ Frm w.heap.size (SpW X lv) w wr) (fun _ vi _ => X.m - (intOf vi).toNat)
  case atStart => exact ⟨0, rfl, Nat.zero_le _, HI.out.1, HI.out.2.1, fun t ht => by omega, HI.out.2.2.1, HQ.out, HI.out.2.2.2⟩
  case round =>
    clear HI c4 w0 w7 HQ
    obtain ⟨i, rfl, hi, hJ⟩ := hrel
    have HJ : Hid (Win X wr ∧ Bnd X wr ∧ (∀ t, t < i → wr.cell? ⟨X.rb, t, none⟩ = some (.int .i64 (t : Int))) ∧ (∀ t, t < X.m → ∃ x, wr.cell? ⟨X.rb, t, none⟩ = some x) ∧ wr.cell? ⟨w.heap.size, 0, none⟩ = some (.pointer (some ⟨X.wb, 0, none⟩)) ∧ wr.cell? ⟨X.wb, 10, none⟩ = some lv ∧ (∃ x, wr.cell? ⟨X.wb, 8, none⟩ = some x) ∧ (∃ x, wr.cell? ⟨X.wb, 9, none⟩ = some x) ∧ Sums lv wr ∧ Coll X.cb X.limit v h total B wr ∧ Frm w.heap.size (SpW X lv) w wr) := hJ
    clear hJ
    have w7 := HJ.out.1.w7
    have q1 := HJ.out.2.2.2.2.1
    by_cases him : i < X.m
    · have hii : (i : Int) < (X.m : Int) := by omega
      obtain ⟨x, hx⟩ := HJ.out.2.2.2.1 i him
      have fz := HJ.out.1.fr i
      go_wp2
      go_roundw
      case measure => simp [intOf]; omega
      case rel =>
        have hgs := grown_setCell wr ⟨X.rb, i, none⟩ (.int .i64 (i : Int))
        obtain ⟨a1, a2, a3, a4, a5, a6, a7, a8, a9, a10, a11⟩ := HJ.out
        refine ⟨i + 1, rfl, by omega, a1.set (G.rc _ (rd_ob X)).2.2.2.1.symm (fun e => absurd e.symm nd.2.2.2.2.2.1), fun t ht => cell_set_ne (a2 t ht) (Or.inl nd.2.2.2.2.2.2.2.1), fun t ht => ?_, fun t ht => ?_, cell_set_ne a5 (Or.inl (by omega)), cell_set_ne a6 (Or.inl nd.2.2.2.2.2.1), ?_, ?_, ?_, a10.kept hgs (fun e => nd.2.2.1 (by injection e with e; exact e.symm)) (fun k e => by injection e with e; subst e; exact hU.rb), a11.grown hgs (fun k e => Or.inr (by injection e with e; exact Or.inr (Or.inl e.symm))) a11.size⟩
        · by_cases e : t = i
          · subst e; exact World.cell?_setCell_same _ _ _ hx
          · exact cell_set_ne (a3 t (by omega)) (Or.inr e)
        · by_cases e : t = i
          · subst e; exact ⟨_, World.cell?_setCell_same _ _ _ hx⟩
          · obtain ⟨y, hy⟩ := a4 t ht; exact ⟨y, cell_set_ne hy (Or.inr e)⟩
        · obtain ⟨y, hy⟩ := a7; exact ⟨y, cell_set_ne hy (Or.inl nd.2.2.2.2.2.1)⟩
        · obtain ⟨y, hy⟩ := a8; exact ⟨y, cell_set_ne hy (Or.inl nd.2.2.2.2.2.1)⟩
        · rcases a9 with e | ⟨lb, lc, z, e, o⟩
          · exact Or.inl e
          · refine Or.inr ⟨lb, lc, z, e, World.ownsRow.kept o hgs (Or.inr fun e' => ?_)⟩
            have := HL.out lb (by rw [e]; rfl)
            rw [e] at e'
            injection e' with e'
            exact this.rb e'
    · have hii : ¬ (i : Int) < (X.m : Int) := by omega
      obtain rfl : i = X.m := by omega
      have HSo : Hid (SortAt X w.heap.size wr) := ⟨q1, HJ.out.1.w6, HJ.out.2.1, HJ.out.2.2.1⟩
      go_wp2_with (go_at_call 26; refine (sort_ints X G w.heap.size X.m wr HSo.out).mono ?_; rintro z w3 ⟨rfl, q, hq3⟩; have HG3 : Hid (wr.grownBy w3 none) := (by rw [hq3]; exact grown_drewN _ _); clear hq3)
      have f10g : w3.frozen? ⟨X.wb, 10, none⟩ = false := (World.frozen?_of_block (HG3.out.block X.wb (World.block_lt_of_cell? wr _ HJ.out.1.w0) (by simp))).trans (HJ.out.1.fw 10)
      have HW3 : Hid (Win X w3 ∧ Bnd X w3 ∧ Ord X w3 ∧ w3.cell? ⟨w.heap.size, 0, none⟩ = some (.pointer (some ⟨X.wb, 0, none⟩)) ∧ (∃ x, w3.cell? ⟨X.wb, 10, none⟩ = some x) ∧ (∃ x, w3.cell? ⟨X.wb, 8, none⟩ = some x) ∧ (∃ x, w3.cell? ⟨X.wb, 9, none⟩ = some x) ∧ Coll X.cb X.limit v h total B w3 ∧ Frm w.heap.size (SpW X lv) w w3) := (by
        obtain ⟨a1, a2, a3, a4, a5, a6, ⟨y8, a7⟩, ⟨y9, a8⟩, a9, a10, a11⟩ := HJ.out
        exact ⟨a1.gr HG3.out hU a10.base (by simp), fun t ht => HG3.out.cell (a2 t ht) (by simp), fun t ht => HG3.out.cell (a3 t ht) (by simp), HG3.out.cell a5 (by simp), ⟨_, HG3.out.cell a6 (by simp)⟩, ⟨_, HG3.out.cell a7 (by simp)⟩, ⟨_, HG3.out.cell a8 (by simp)⟩, a10.kept HG3.out (by simp) (by simp), a11.grown HG3.out (by simp) a11.size⟩)
      go_cut [] (fun wx => SplR X lv v h total B w wx)
      case first =>
       rcases HJ.out.2.2.2.2.2.2.2.2.1 with e | ⟨lb, lc, x, e, ho⟩
       · subst e
         have d10 := HG3.out.cell HJ.out.2.2.2.2.2.1 (by simp)
         have f10 := f10g
         have qc := HG3.out.cell q1 (by simp)
         have HOwn : Hid (∀ W, w3.grownBy W none → W.ownsRow 0 35 1 (Value.slice none 0 0) 0 []) := fun W _ => World.ownsRow_nil _ _ _ _
         have d10a : (w3.alloc (.cells #[.float .f64 0] 35)).cell? ⟨X.wb, 10, none⟩ = some (.slice none 0 0) := (World.grownBy_alloc w3 _ none).cell d10 (by simp)
         have qca : (w3.alloc (.cells #[.float .f64 0] 35)).cell? ⟨w.heap.size, 0, none⟩ = some (.pointer (some ⟨X.wb, 0, none⟩)) := (World.grownBy_alloc w3 _ none).cell qc (by simp)
         have HN : Hid (some X.wb ≠ (Value.slice none 0 0).ownBlock ∧ some w.heap.size ≠ (Value.slice none 0 0).ownBlock) := ⟨by simp [Value.ownBlock], by simp [Value.ownBlock]⟩
         go_region_law
           (first | (refine step_append_lies _ (by rfl) (.tmp 47) (.tmp 48) 25 (by rfl) 0 35 i35 _ 1 8 Yba.underlying25 hi35 hx0 hx1 hx2 hx3 (by omega) (Value.slice none 0 0) 0 [] (by rfl) (HOwn.out _ (by first | exact (grown_drew _).trans (World.grownBy_alloc _ _ _) | exact (World.grownBy_alloc _ _ _).trans (grown_drew _))) ⟨w3.heap.size, 0, none⟩ 1 1 [.float .f64 0] (by rfl) (by rfl) (World.news_of_block (cs := #[.float .f64 0]) (t := 35) (fr := (0, 0)) (heap_alloc_new w3 _)) (by simp [Value.oneCell']) (by omega) (by unfold maxLen; omega) (by omega) (by simp) (w3.heap.size + 1) (by simp) ?_; intro gg cap2 w4 hown4 hgrow hat hlt; have hfz4 : w4.frozen? ⟨X.wb, 10, none⟩ = false := (by first | exact keepF f10 d10 ((World.grownBy_alloc _ _ _).trans (grown_drew _)) hgrow HN.out.1 | exact keepF f10 d10 ((grown_drew _).trans (World.grownBy_alloc _ _ _)) hgrow HN.out.1); have hcc4 : w4.cell? ⟨X.wb, 10, none⟩ = some (.slice none 0 0) := (by first | exact keepC d10 ((World.grownBy_alloc _ _ _).trans (grown_drew _)) hgrow HN.out.1 | exact keepC d10 ((grown_drew _).trans (World.grownBy_alloc _ _ _)) hgrow HN.out.1); have hqc4 : w4.cell? ⟨w.heap.size, 0, none⟩ = some (.pointer (some ⟨X.wb, 0, none⟩)) := (by first | exact keepC qc ((World.grownBy_alloc _ _ _).trans (grown_drew _)) hgrow HN.out.2 | exact keepC qc ((grown_drew _).trans (World.grownBy_alloc _ _ _)) hgrow HN.out.2); have HG4 : Hid (∃ Wz, w3.grownBy Wz none ∧ Wz.grownBy w4 (Value.slice none 0 0).ownBlock ∧ Wz.heap.size = w3.heap.size + 1) := (by first | exact ⟨_, (World.grownBy_alloc w3 _ none).trans (grown_drew _), hgrow, by simp⟩ | exact ⟨_, (grown_drew w3).trans (World.grownBy_alloc _ _ none), hgrow, by simp⟩); have HO4 : Hid (w4.ownsRow 0 35 1 (.slice (some ⟨gg, 0, none⟩) 1 cap2) 1 [.float .f64 0] ∧ ((Value.slice none 0 0).ownBlock = some gg ∨ (Value.slice none 0 0 = .slice none 0 0 ∧ gg = w3.heap.size + 1)) ∧ gg < w4.heap.size) := ⟨hown4, hat.imp id (fun q => ⟨rfl, q⟩), hlt⟩; clear hown4 hgrow hat hlt))
         all_goals
           go_wp2_with fail
           go_meet
           obtain ⟨Wz, z1, z2, z3⟩ := HG4.out
           exact sums_done G rfl HW3.out.1 HW3.out.2.1 HW3.out.2.2.1 HW3.out.2.2.2.1 HW3.out.2.2.2.2.1 HW3.out.2.2.2.2.2.1 HW3.out.2.2.2.2.2.2.1 HW3.out.2.2.2.2.2.2.2.1 HW3.out.2.2.2.2.2.2.2.2 hU HL.out hbase z1 z2 z3 HO4.out.1 (HO4.out.2.1.imp id (fun q => ⟨rfl, q.2⟩)) HO4.out.2.2
       · subst e
         have hlbo := HL.out lb rfl
         have hlc : 0 + 1 ≤ lc := own_cap ho
         have d10 := HG3.out.cell HJ.out.2.2.2.2.2.1 (by simp)
         have f10 := f10g
         have qc := HG3.out.cell q1 (by simp)
         have HOwn : Hid (∀ W, w3.grownBy W none → W.ownsRow 0 35 1 (Value.slice (some ⟨lb, 0, none⟩) 0 lc) 0 []) := fun W hW => World.ownsRow.kept (Sums.cut ho) (HG3.out.trans hW) (Classical.em _)
         have d10a : (w3.alloc (.cells #[.float .f64 0] 35)).cell? ⟨X.wb, 10, none⟩ = some (.slice (some ⟨lb, 0, none⟩) 1 lc) := (World.grownBy_alloc w3 _ none).cell d10 (by simp)
         have qca : (w3.alloc (.cells #[.float .f64 0] 35)).cell? ⟨w.heap.size, 0, none⟩ = some (.pointer (some ⟨X.wb, 0, none⟩)) := (World.grownBy_alloc w3 _ none).cell qc (by simp)
         have HN : Hid (some X.wb ≠ (Value.slice (some ⟨lb, 0, none⟩) 0 lc).ownBlock ∧ some w.heap.size ≠ (Value.slice (some ⟨lb, 0, none⟩) 0 lc).ownBlock) := ⟨fun e => hlbo.wb (by injection e with e; exact e.symm), fun e => by have h1 := hlbo.lt; injection e with e; simp at e; omega⟩
         go_region_law
           (first | (refine step_append_spare _ (by rfl) (.tmp 47) (.tmp 48) 25 (by rfl) 0 35 i35 1 Yba.underlying25 hi35 hx1 lb 0 lc [] (by rfl) (HOwn.out _ (by first | exact (grown_drew _).trans (World.grownBy_alloc _ _ _) | exact (World.grownBy_alloc _ _ _).trans (grown_drew _))) ⟨w3.heap.size, 0, none⟩ 1 1 [.float .f64 0] (by rfl) (by rfl) (World.news_of_block (cs := #[.float .f64 0]) (t := 35) (fr := (0, 0)) (heap_alloc_new w3 _)) (by simp [Value.oneCell']) hlc ?_; intro w4 hown4 hgrow; have hfz4 : w4.frozen? ⟨X.wb, 10, none⟩ = false := (by first | exact keepF f10 d10 ((World.grownBy_alloc _ _ _).trans (grown_drew _)) hgrow HN.out.1 | exact keepF f10 d10 ((grown_drew _).trans (World.grownBy_alloc _ _ _)) hgrow HN.out.1); have hcc4 : w4.cell? ⟨X.wb, 10, none⟩ = some (.slice (some ⟨lb, 0, none⟩) 1 lc) := (by first | exact keepC d10 ((World.grownBy_alloc _ _ _).trans (grown_drew _)) hgrow HN.out.1 | exact keepC d10 ((grown_drew _).trans (World.grownBy_alloc _ _ _)) hgrow HN.out.1); have hqc4 : w4.cell? ⟨w.heap.size, 0, none⟩ = some (.pointer (some ⟨X.wb, 0, none⟩)) := (by first | exact keepC qc ((World.grownBy_alloc _ _ _).trans (grown_drew _)) hgrow HN.out.2 | exact keepC qc ((grown_drew _).trans (World.grownBy_alloc _ _ _)) hgrow HN.out.2); have HG4 : Hid (∃ Wz, w3.grownBy Wz none ∧ Wz.grownBy w4 (Value.slice (some ⟨lb, 0, none⟩) 0 lc).ownBlock ∧ Wz.heap.size = w3.heap.size + 1) := (by first | exact ⟨_, (World.grownBy_alloc w3 _ none).trans (grown_drew _), hgrow, by simp⟩ | exact ⟨_, (grown_drew w3).trans (World.grownBy_alloc _ _ none), hgrow, by simp⟩); have HO4 : Hid (w4.ownsRow 0 35 1 (.slice (some ⟨lb, 0, none⟩) 1 lc) 1 [.float .f64 0] ∧ ((Value.slice (some ⟨lb, 0, none⟩) 1 lc).ownBlock = some lb ∨ (Value.slice (some ⟨lb, 0, none⟩) 1 lc = .slice none 0 0 ∧ lb = w3.heap.size + 1)) ∧ lb < w4.heap.size) := ⟨hown4, Or.inl rfl, (World.ownsRow.lt hown4 lb rfl).2⟩; clear hown4 hgrow))
         all_goals
           go_wp2_with fail
           go_meet
           obtain ⟨Wz, z1, z2, z3⟩ := HG4.out
           exact sums_done G rfl HW3.out.1 HW3.out.2.1 HW3.out.2.2.1 HW3.out.2.2.2.1 HW3.out.2.2.2.2.1 HW3.out.2.2.2.2.2.1 HW3.out.2.2.2.2.2.2.1 HW3.out.2.2.2.2.2.2.2.1 HW3.out.2.2.2.2.2.2.2.2 hU HL.out hbase z1 z2 z3 HO4.out.1 HO4.out.2.1 HO4.out.2.2
      case rest =>
        obtain ⟨lb, lc, t1, t2, t3, t4, t5, t6, t7, t8, ⟨y8, t9⟩, ⟨y9, t10⟩, t11, t12⟩ := hcut
        have hm0 := G.m0
        have HR : Hid (wc.ownsRow 0 35 1 (.slice (some ⟨lb, 0, none⟩) 1 lc) 1 [.float .f64 0] ∧ (lv.ownBlock = some lb ∨ (lv = .slice none 0 0 ∧ w.heap.size ≤ lb)) ∧ lb < wc.heap.size ∧ Win X wc ∧ Bnd X wc ∧ Ord X wc ∧ Coll X.cb X.limit v h total B wc ∧ Frm w.heap.size (SpW X lv) w wc) := ⟨t2, t3, t4, t5, t6, t7, t11, t12⟩
        have l0 : wc.cell? ⟨lb, 0, none⟩ = some (.float .f64 0) := own_cell0 t2
        have hlbw : lb ≠ X.wb := by
          rcases t3 with e | e
          · exact (HL.out _ e).wb
          · omega
        have x0 := t5.w0
        have x6 := t5.w6
        have x7 := t5.w7
        have b0 := t6 0 hm0
        have r0 := t7 0 hm0
        have f8 := t5.fw 8
        have f9 := t5.fw 9
        have hmi : decide ((0 : Int) < (X.m : Int)) = true := by simp; omega
        have hmi2 : (0 : Int) < (X.m : Int) := by omega
        have hb1 : X.boost 0 * 1000 = 1000 := by rw [G.bo]; simp
        rw [hb1] at b0
        have hfa : floatBits .add .f64 0 (fl 1000) = some (fl 1000) := by have := add_fl 0 1000 (by omega) (by omega); rw [fl_zero] at this; simpa using this
        have af := fun w => run_float_arith (P := Yba.prog) w .add 35 .f64 _ _ _ hfa
        have hbt : Beats (fl 1000) := by rw [fl_1000]; exact beats_1000
        clear t2 t3 t4 t5 t6 t7 t11 t12 hb1 hfa
        go_wp2
        go_loopw [4] (fun vk wy => vk = .int .i64 0 ∧ wc = wy) (fun _ _ => 0)
        case atStart => exact ⟨rfl, rfl⟩
        case round =>
          obtain ⟨rfl, rfl⟩ := hrel
          go_wp2
          go_quiet ((go_at_call 29; refine Calls.quiet_of_same ((beats_any X.cb X.limit v h total B _ _ _ (HR.out.2.2.2.2.2.2.1.kept (grown_drewN _ _) (by simp) (by simp)) hbt (Or.inl rfl)).mono (fun e w' h => ⟨h.1, h.2.symm⟩))))
          have g5 := grown_drewN wc nq
          have p7 := g5.cell x7 (by simp)
          have pq := g5.cell t8 (by simp)
          have p8 := g5.cell t9 (by simp)
          have p9 := g5.cell t10 (by simp)
          have p10 := g5.cell t1 (by simp)
          have pl := g5.cell l0 (by simp)
          have f8' : (wc.drewN nq).frozen? ⟨X.wb, 8, none⟩ = false := f8
          have f9' : (wc.drewN nq).frozen? ⟨X.wb, 9, none⟩ = false := f9
          have HG5 : Hid (wc.grownBy (wc.drewN nq) none) := g5
          clear x0 x6 x7 b0 r0 l0 t1 t8 t9 t10 f8 f9 g5
          generalize wc.drewN nq = w5 at p7 pq p8 p9 p10 pl f8' f9' HG5 ⊢
          go_wp2
          go_region
          clear pq f8' f9'
          go_end0
          obtain ⟨t2, t3, t4, t5, t6, t7, t11, t12⟩ := HR.out
          have c5 : Coll X.cb X.limit v h total B w5 := t11.kept HG5.out (by simp) (by simp)
          have k5 : Win X w5 := t5.gr HG5.out hU t11.base (by simp)
          obtain ⟨A, hA⟩ : ∃ A, A = w5.setCell ⟨X.wb, 9, none⟩ (.slice (some ⟨X.rb, 0, none⟩) 0 X.m) := ⟨_, rfl⟩
          have gA : w5.grownBy A (some X.wb) := by rw [hA]; exact grown_setCell w5 ⟨X.wb, 9, none⟩ _
          obtain ⟨Bw, hBw⟩ : ∃ Bw, Bw = A.setCell ⟨X.wb, 8, none⟩ (.slice (some ⟨X.rb, 0, none⟩) X.m X.m) := ⟨_, rfl⟩
          have gB : A.grownBy Bw (some X.wb) := by rw [hBw]; exact grown_setCell A ⟨X.wb, 8, none⟩ _
          have kA : Win X A := by rw [hA]; exact k5.set (G.rc _ (rd_ob X)).2.1.symm (fun _ => by omega)
          have kB : Win X Bw := by rw [hBw]; exact kA.set (G.rc _ (rd_ob X)).2.1.symm (fun _ => by omega)
          have gD := grown_drew Bw
          have gAll : w5.grownBy Bw.drew (some X.wb) := (gA.trans gB).trans (grown_any gD)
          have a9 : A.cell? ⟨X.wb, 9, none⟩ = some (.slice (some ⟨X.rb, 0, none⟩) 0 X.m) := by rw [hA]; exact World.cell?_setCell_same _ _ _ p9
          have a8 : A.cell? ⟨X.wb, 8, none⟩ = some y8 := by rw [hA]; exact cell_set_ne p8 (Or.inr (by omega))
          have a10 : A.cell? ⟨X.wb, 10, none⟩ = some (.slice (some ⟨lb, 0, none⟩) 1 lc) := by rw [hA]; exact cell_set_ne p10 (Or.inr (by omega))
          have b9 : Bw.cell? ⟨X.wb, 9, none⟩ = some (.slice (some ⟨X.rb, 0, none⟩) 0 X.m) := by rw [hBw]; exact cell_set_ne a9 (Or.inr (by omega))
          have b8 : Bw.cell? ⟨X.wb, 8, none⟩ = some (.slice (some ⟨X.rb, 0, none⟩) X.m X.m) := by rw [hBw]; exact World.cell?_setCell_same _ _ _ a8
          have b10 : Bw.cell? ⟨X.wb, 10, none⟩ = some (.slice (some ⟨lb, 0, none⟩) 1 lc) := by rw [hBw]; exact cell_set_ne a10 (Or.inr (by omega))
          have sB : B ≤ Bw.heap.size := Nat.le_trans c5.base (Nat.le_trans gA.size gB.size)
          rw [← hA, ← hBw]
          have g0 : wc.grownBy Bw.drew (some X.wb) := (grown_any HG5.out).trans gAll
          refine ⟨rfl, lb, lc, kB.gr gD hU sB (by simp), fun t ht => g0.cell (t6 t ht) (fun e => nd.2.2.2.2.1 (by injection e with e; exact e.symm)), fun t ht => g0.cell (t7 t ht) (fun e => nd.2.2.2.2.2.1 (by injection e with e; exact e.symm)), ⟨gD.cell b8 (by simp), gD.cell b9 (by simp), gD.cell b10 (by simp), g0.cell (own_cell0 t2) (fun e => hlbw (by injection e))⟩, World.ownsRow.kept t2 g0 (Or.inr fun e => hlbw (by injection e)), t3, Nat.lt_of_lt_of_le t4 g0.size, t12.grown g0 (fun k e => Or.inr (by injection e with e; exact Or.inl e.symm)) t12.size⟩
end Go.Proofs.Ybulkchng
