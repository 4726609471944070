/-
  A window at work: what stays and what is written.
-/
import Derived.Test.YbulkchngMat
namespace Go.Proofs.Ybulkchng
open Go.RowKit

theorem own_frm {lb lc : Nat} {x : Value} {B : Nat} {Xs : Nat → Prop} {w w' : World} (h : w.ownsRow 0 35 1 (.slice (some ⟨lb, 0, none⟩) 1 lc) 1 [x]) (hf : Frm B Xs w w') (hb : lb < B) (hx : ¬ Xs lb) : w'.ownsRow 0 35 1 (.slice (some ⟨lb, 0, none⟩) 1 lc) 1 [x] := by
  rcases h.2 with ⟨e, _⟩ | ⟨g, cap, cur, e, r1, r2, r⟩
  · cases e
  · have e' := e
    injection e with e1 e2 e3
    injection e1 with e1
    injection e1 with e1
    subst e1
    exact ⟨h.1, Or.inr ⟨lb, cap, cur, e', r1, (hf.block lb hb hx).trans r2, r⟩⟩

/-- Behind split. -/
structure Run (X : Cx) (lb lc : Nat) (v : Value) (h : Array Mt) (total B : Nat) (w : World) : Prop where
  win : Win X w
  bnd : Bnd X w
  ord : Ord X w
  spl : Spl X lb lc w
  grp : Grp X w
  col : Coll X.cb X.limit v h total B w
  own : w.ownsRow 0 35 1 (.slice (some ⟨lb, 0, none⟩) 1 lc) 1 [.float .f64 0]

theorem Run.step {X : Cx} (G : Good X) {lb lc : Nat} {v v' : Value} {h h' : Array Mt} {total total' B : Nat} {w w' : World} (r : Run X lb lc v h total B w) (hf : Frm B (Wr X) w w') (hU : Under X B) (hl : LbOk X lb B) (hc : Coll X.cb X.limit v' h' total' B w') : Run X lb lc v' h' total' B w' :=
  ⟨r.win.wr G hf hU, r.bnd.wr G hf hU, r.ord.wr G hf hU, r.spl.wr G hf hU hl, r.grp.wr G hf hU, hc, own_frm r.own hf hl.lt (fun e => e.elim hl.cb hl.ns)⟩

theorem isS_lt {X : Cx} {B : Nat} (hU : Under X B) {k : Nat} (h : isS X k) : k < B := by
  obtain ⟨u, hu, e⟩ := h
  rw [e]; exact hU.sb u hu

theorem Run.adv {X : Cx} (G : Good X) {lb lc : Nat} {v : Value} {h : Array Mt} {total B : Nat} {w w' : World} (r : Run X lb lc v h total B w) (hf : Frm w.heap.size (isS X) w w') (hU : Under X B) (hl : LbOk X lb B) : Run X lb lc v h total B w' :=
  r.step G (hf.mono r.col.base (fun _ e => Or.inr e)) hU hl (r.col.frm hf G.ncb (fun k hk e => by have := isS_lt hU e; omega))

theorem Run.still {X : Cx} (G : Good X) {lb lc : Nat} {v : Value} {h : Array Mt} {total B : Nat} {w w' : World} (r : Run X lb lc v h total B w) (hg : w.grownBy w' none) (hU : Under X B) (hl : LbOk X lb B) : Run X lb lc v h total B w' :=
  r.adv G (Frm.of hg (by simp) (Nat.le_refl _)) hU hl

theorem cell_setk {w : World} {k o k' o' : Nat} {x v : Value} (h : w.cell? ⟨k', o', none⟩ = some v) (hne : k' ≠ k) : (w.setCell ⟨k, o, none⟩ x).cell? ⟨k', o', none⟩ = some v :=
  (grown_setCell w ⟨k, o, none⟩ x).cell h (fun e => hne (by injection e))

/-- A document is written. -/
theorem Run.setK {X : Cx} (G : Good X) {lb lc : Nat} {v : Value} {h : Array Mt} {total B : Nat} {w : World} (r : Run X lb lc v h total B w) (hU : Under X B) (hl : LbOk X lb B) (i : Nat) (x : Value) : Run X lb lc v h total B (w.setCell ⟨X.kb, i, none⟩ x) := by
  have gs := grown_setCell w ⟨X.kb, i, none⟩ x
  have fz : ∀ b j, (w.setCell ⟨X.kb, i, none⟩ x).frozen? ⟨b, j, none⟩ = w.frozen? ⟨b, j, none⟩ := fun b j => World.frozen?_setCell _ _ _ _
  have nk : ∀ b, Rd X b → b ≠ X.kb := fun b hb => (G.rc b hb).2.2.2.2
  have nwk : X.wb ≠ X.kb := G.nd.2.2.2.2.2.2.1
  have nbk : X.bb ≠ X.kb := G.nd.2.2.2.2.2.2.2.2.1
  have nrk : X.rb ≠ X.kb := G.nd.2.2.2.2.2.2.2.2.2
  obtain ⟨a, b, c, d, e, f, o⟩ := r
  refine ⟨⟨cell_setk a.w0 nwk, cell_setk a.w1 nwk, cell_setk a.w2 nwk, cell_setk a.w3 nwk, cell_setk a.w4 nwk, cell_setk a.w5 nwk, cell_setk a.w6 nwk, cell_setk a.w7 nwk, cell_setk a.w11 nwk, fun t ht => cell_setk (a.o0 t ht) (nk _ (rd_ob X)), fun t ht => cell_setk (a.o1 t ht) (nk _ (rd_ob X)), fun t ht => cell_setk (a.o2 t ht) (nk _ (rd_ob X)), fun j => (fz _ _).trans (a.fw j), fun j => (fz _ _).trans (a.fb j), fun j => (fz _ _).trans (a.fr j), fun j => (fz _ _).trans (a.fk j)⟩,
    fun t ht => cell_setk (b t ht) nbk, fun t ht => cell_setk (c t ht) nrk, ⟨cell_setk d.s8 nwk, cell_setk d.s9 nwk, cell_setk d.s10 nwk, cell_setk d.l0 hl.kb⟩,
    e.kept gs (fun q => nk _ (rd_gb X) (by injection q with q; exact q.symm)) (fun q => nk _ (rd_clb X) (by injection q with q; exact q.symm)) (fun q => nk _ (rd_pb X) (by injection q with q; exact q.symm)),
    f.kept gs (fun q => G.nd.2.2.2.1 (by injection q with q; exact q.symm)) (fun k q => by injection q with q; subst q; exact hU.kb), World.ownsRow.kept o gs (Or.inr fun q => hl.kb (by injection q))⟩

theorem Fam.setK {X : Cx} (G : Good X) {t : Nat} {w : World} (h : Fam X t w) (i : Nat) (x : Value) : Fam X t (w.setCell ⟨X.kb, i, none⟩ x) :=
  h.kept (grown_setCell w ⟨X.kb, i, none⟩ x) (fun u hu => ⟨fun q => G.nkb ⟨u, hu, by injection q⟩, fun q => (G.rc _ (rd_db X hu)).2.2.2.2 (by injection q with q; exact q.symm), fun q => (G.rc _ (rd_fb X hu)).2.2.2.2 (by injection q with q; exact q.symm)⟩)

/-- What a window writes. -/
def CoW (X : Cx) (lv : Value) (k : Nat) : Prop := k = X.wb ∨ k = X.cb ∨ k = X.bb ∨ k = X.rb ∨ k = X.kb ∨ isS X k ∨ lv.ownBlock = some k
end Go.Proofs.Ybulkchng
