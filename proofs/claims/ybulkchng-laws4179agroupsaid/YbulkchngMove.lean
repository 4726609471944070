/-
  From window to window.
-/
import Derived.Test.YbulkchngGather
namespace Go.Proofs.Ybulkchng
open Go.RowKit

/-- The search at another window. -/
abbrev Cx.at (X : Cx) (a b : Nat) : Cx := { X with lo := a, hi := b }

theorem Good.at {X : Cx} (G : Good X) (a b : Nat) : Good (X.at a b) :=
  ⟨G.rc, G.nd, G.m0, G.mN, G.N3, G.up, G.dn, G.sc, G.ln, G.bo, G.m2, G.n1, G.ba, G.li, G.ss, G.sd, G.sf, G.ngb, G.nclb, G.nob, G.npb, G.nwb, G.ncb, G.nbb, G.nrb, G.nkb⟩
theorem Under.at {X : Cx} {B : Nat} (U : Under X B) (a b : Nat) : Under (X.at a b) B := ⟨U.rd, U.cb, U.wb, U.bb, U.rb, U.kb, U.sb⟩
theorem LbOk.at {X : Cx} {lb B : Nat} (l : LbOk X lb B) (a b : Nat) : LbOk (X.at a b) lb B := ⟨l.lt, l.cb, l.wb, l.bb, l.rb, l.kb, l.ns, l.nr⟩
theorem LbOk.un {X : Cx} {lb B a b : Nat} (l : LbOk (X.at a b) lb B) : LbOk X lb B := ⟨l.lt, l.cb, l.wb, l.bb, l.rb, l.kb, l.ns, l.nr⟩
theorem Fam.at {X : Cx} {t : Nat} {w : World} (h : Fam X t w) (a b : Nat) : Fam (X.at a b) t w := h
theorem scTo_at (X : Cx) (a b d : Nat) : ∀ i, scTo (X.at a b) d i = scTo X d i
  | 0 => rfl
  | i + 1 => by
    show scTo (X.at a b) d i + part (X.at a b) d i = scTo X d i + part X d i
    rw [scTo_at X a b d i]; rfl
theorem offd_at (X : Cx) (a b t : Nat) : offd (X.at a b) t = offd X t := by
  have e : ∀ d, sc (X.at a b) d = sc X d := fun d => scTo_at X a b d X.N
  show (List.range t).filterMap (fun d => if isM X d = true then some ((X.base : Int) + (d : Int), sc (X.at a b) d) else none) = _
  simp only [e]; rfl

/-- Cells 4 and 5 of the window are written. -/
theorem Ready.put {X : Cx} (G : Good X) {lv v : Value} {h : Array Mt} {total B : Nat} {w : World} (r : Ready X lv v h total B w) (hU : Under X B) (hL : ∀ lb, lv.ownBlock = some lb → LbOk X lb B) (o c a b : Nat) (ho : (o = 4 ∧ a = c ∧ b = X.hi) ∨ (o = 5 ∧ a = X.lo ∧ b = c)) : Ready (X.at a b) lv v h total B (w.setCell ⟨X.wb, o, none⟩ (.int .i64 (c : Int))) := by
  have gs := grown_setCell w ⟨X.wb, o, none⟩ (.int .i64 (c : Int))
  have ne : ∀ o', o' ≠ 4 ∧ o' ≠ 5 → X.wb ≠ X.wb ∨ o' ≠ o := fun o' h => by right; omega
  have nr : ∀ b, Rd X b → b ≠ X.wb := fun b hb => (G.rc b hb).2.1
  have fz : ∀ b j, (w.setCell ⟨X.wb, o, none⟩ (.int .i64 (c : Int))).frozen? ⟨b, j, none⟩ = w.frozen? ⟨b, j, none⟩ := fun b j => World.frozen?_setCell _ _ _ _
  obtain ⟨⟨w0, w1, w2, w3, w4, w5, w6, w7, w11, o0, o1, o2, fw, fb, fr, fk⟩, g, c1, w10, w8, w9, eb, er, ek, sm⟩ := r
  have nb : some X.bb ≠ some X.wb := fun e => G.nd.2.2.2.2.1 (by injection e with e; exact e.symm)
  have nrb : some X.rb ≠ some X.wb := fun e => G.nd.2.2.2.2.2.1 (by injection e with e; exact e.symm)
  have nk : some X.kb ≠ some X.wb := fun e => G.nd.2.2.2.2.2.2.1 (by injection e with e; exact e.symm)
  refine ⟨⟨cell_set_ne w0 (ne _ (by omega)), cell_set_ne w1 (ne _ (by omega)), cell_set_ne w2 (ne _ (by omega)), cell_set_ne w3 (ne _ (by omega)), ?_, ?_, cell_set_ne w6 (ne _ (by omega)), cell_set_ne w7 (ne _ (by omega)), cell_set_ne w11 (ne _ (by omega)), fun t ht => cell_set_ne (o0 t ht) (Or.inl (nr _ (rd_ob X))), fun t ht => cell_set_ne (o1 t ht) (Or.inl (nr _ (rd_ob X))), fun t ht => cell_set_ne (o2 t ht) (Or.inl (nr _ (rd_ob X))), fun j => (fz _ _).trans (fw j), fun j => (fz _ _).trans (fb j), fun j => (fz _ _).trans (fr j), fun j => (fz _ _).trans (fk j)⟩,
    ?_, c1.kept gs (fun e => G.nd.1 (by injection e with e; exact e.symm)) (fun k e => by injection e with e; subst e; exact hU.wb), cell_set_ne w10 (ne _ (by omega)), ?_, ?_, fun t ht => ex_cell gs (eb t ht) nb, fun t ht => ex_cell gs (er t ht) nrb, fun t ht => ex_cell gs (ek t ht) nk, ?_⟩
  · rcases ho with ⟨rfl, rfl, rfl⟩ | ⟨rfl, rfl, rfl⟩
    · exact World.cell?_setCell_same _ _ _ w4
    · exact cell_set_ne w4 (Or.inr (by omega))
  · rcases ho with ⟨rfl, rfl, rfl⟩ | ⟨rfl, rfl, rfl⟩
    · exact cell_set_ne w5 (Or.inr (by omega))
    · exact World.cell?_setCell_same _ _ _ w5
  · have q := g.kept gs (fun e => nr _ (rd_gb X) (by injection e with e; exact e.symm)) (fun e => nr _ (rd_clb X) (by injection e with e; exact e.symm)) (fun e => nr _ (rd_pb X) (by injection e with e; exact e.symm))
    exact ⟨q.g0, q.g3, q.pa, q.k0, q.k1, q.k2, q.pr⟩
  · obtain ⟨y, hy⟩ := w8; exact ⟨y, cell_set_ne hy (ne _ (by omega))⟩
  · obtain ⟨y, hy⟩ := w9; exact ⟨y, cell_set_ne hy (ne _ (by omega))⟩
  · rcases sm with e | ⟨lb, lc, z, e, q⟩
    · exact Or.inl e
    · refine Or.inr ⟨lb, lc, z, e, World.ownsRow.kept q gs (Or.inr fun e' => ?_)⟩
      have := hL lb (by rw [e]; rfl)
      rw [e] at e'
      injection e' with e'
      exact this.wb e'
theorem Fam.put {X : Cx} (G : Good X) {t : Nat} {w : World} (h : Fam X t w) (o : Nat) (x : Value) : Fam X t (w.setCell ⟨X.wb, o, none⟩ x) :=
  h.kept (grown_setCell w ⟨X.wb, o, none⟩ x) (fun u hu => ⟨fun q => G.nwb ⟨u, hu, by injection q⟩, fun q => (G.rc _ (rd_db X hu)).2.1 (by injection q with q; exact q.symm), fun q => (G.rc _ (rd_fb X hu)).2.1 (by injection q with q; exact q.symm)⟩)
end Go.Proofs.Ybulkchng
