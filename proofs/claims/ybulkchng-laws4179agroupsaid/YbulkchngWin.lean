/-
  A window of a search in memory.
-/
import Derived.Test.YbulkchngSco
import Derived.Test.YbulkchngOff
import Derived.Test.YbulkchngTail
namespace Go.Proofs.Ybulkchng
open Go.RowKit

/-- What is not a block of the search's writing: by the frame. -/
theorem Fam.frm {X : Cx} {t B : Nat} {Xs : Nat → Prop} {w w' : World} (h : Fam X t w) (hf : Frm B Xs w w') (h1 : ∀ u, u < X.N → ((X.L u).sb < B ∧ ¬ Xs (X.L u).sb) ∧ ((X.L u).db < B ∧ ¬ Xs (X.L u).db) ∧ ((X.L u).fb < B ∧ ¬ Xs (X.L u).fb)) : Fam X t w' := fun u hu => by
  obtain ⟨q, s, r⟩ := h u hu
  obtain ⟨a, b, c⟩ := h1 u hu
  exact ⟨q, ⟨hf.cell s.c0 a.1 a.2, hf.cell s.c1 a.1 a.2, hf.cell s.c2 a.1 a.2, fun i => hf.frozen (s.fz i) a.1 a.2, s.da, s.fa, fun i hi => hf.cell (s.dd i hi) b.1 b.2, fun i hi => hf.cell (s.ff i hi) c.1 c.2, s.ne1, s.ne2⟩, r⟩

theorem Grp.frm {X : Cx} {B : Nat} {Xs : Nat → Prop} {w w' : World} (g : Grp X w) (hf : Frm B Xs w w') (h1 : X.gb < B ∧ ¬ Xs X.gb) (h2 : X.clb < B ∧ ¬ Xs X.clb) (h3 : X.pb < B ∧ ¬ Xs X.pb) : Grp X w' :=
  ⟨hf.cell g.g0 h1.1 h1.2, hf.cell g.g3 h1.1 h1.2, g.pa, fun t ht => hf.cell (g.k0 t ht) h2.1 h2.2, fun t ht => hf.cell (g.k1 t ht) h2.1 h2.2, fun t ht => hf.cell (g.k2 t ht) h2.1 h2.2, fun i hi => hf.cell (g.pr i hi) h3.1 h3.2⟩

/-- The window's lasting cells. -/
structure Win (X : Cx) (w : World) : Prop where
  w0 : w.cell? ⟨X.wb, 0, none⟩ = some (.pointer (some ⟨X.cb, 0, none⟩))
  w1 : w.cell? ⟨X.wb, 1, none⟩ = some (.pointer (some ⟨X.gb, 0, none⟩))
  w2 : w.cell? ⟨X.wb, 2, none⟩ = some (.slice (some ⟨X.ob, 0, none⟩) X.m X.oc)
  w3 : w.cell? ⟨X.wb, 3, none⟩ = some (.int .i64 X.base)
  w4 : w.cell? ⟨X.wb, 4, none⟩ = some (.int .i64 (X.lo : Int))
  w5 : w.cell? ⟨X.wb, 5, none⟩ = some (.int .i64 (X.hi : Int))
  w6 : w.cell? ⟨X.wb, 6, none⟩ = some (.slice (some ⟨X.bb, 0, none⟩) X.m X.m)
  w7 : w.cell? ⟨X.wb, 7, none⟩ = some (.slice (some ⟨X.rb, 0, none⟩) X.m X.m)
  w11 : w.cell? ⟨X.wb, 11, none⟩ = some (.slice (some ⟨X.kb, 0, none⟩) X.m X.m)
  o0 : ∀ t, t < X.m → w.cell? ⟨X.ob, t * 3, none⟩ = some (occ X t)
  o1 : ∀ t, t < X.m → w.cell? ⟨X.ob, t * 3 + 1, none⟩ = some (.float .f64 (fl (X.boost t)))
  o2 : ∀ t, t < X.m → w.cell? ⟨X.ob, t * 3 + 2, none⟩ = some (scv X t)
  fw : ∀ i, w.frozen? ⟨X.wb, i, none⟩ = false
  fb : ∀ i, w.frozen? ⟨X.bb, i, none⟩ = false
  fr : ∀ i, w.frozen? ⟨X.rb, i, none⟩ = false
  fk : ∀ i, w.frozen? ⟨X.kb, i, none⟩ = false

theorem Win.frm {X : Cx} {B : Nat} {Xs : Nat → Prop} {w w' : World} (g : Win X w) (hf : Frm B Xs w w') (h1 : X.wb < B ∧ ¬ Xs X.wb) (h2 : X.ob < B ∧ ¬ Xs X.ob) (h3 : X.bb < B ∧ ¬ Xs X.bb) (h4 : X.rb < B ∧ ¬ Xs X.rb) (h5 : X.kb < B ∧ ¬ Xs X.kb) : Win X w' :=
  ⟨hf.cell g.w0 h1.1 h1.2, hf.cell g.w1 h1.1 h1.2, hf.cell g.w2 h1.1 h1.2, hf.cell g.w3 h1.1 h1.2, hf.cell g.w4 h1.1 h1.2, hf.cell g.w5 h1.1 h1.2, hf.cell g.w6 h1.1 h1.2, hf.cell g.w7 h1.1 h1.2, hf.cell g.w11 h1.1 h1.2,
   fun t ht => hf.cell (g.o0 t ht) h2.1 h2.2, fun t ht => hf.cell (g.o1 t ht) h2.1 h2.2, fun t ht => hf.cell (g.o2 t ht) h2.1 h2.2, fun i => hf.frozen (g.fw i) h1.1 h1.2, fun i => hf.frozen (g.fb i) h3.1 h3.2, fun i => hf.frozen (g.fr i) h4.1 h4.2, fun i => hf.frozen (g.fk i) h5.1 h5.2⟩

/-- The bounds. -/
def Bnd (X : Cx) (w : World) : Prop := ∀ t, t < X.m → w.cell? ⟨X.bb, t, none⟩ = some (.float .f64 (fl (X.boost t * 1000)))
/-- The clauses' order. -/
def Ord (X : Cx) (w : World) : Prop := ∀ t, t < X.m → w.cell? ⟨X.rb, t, none⟩ = some (.int .i64 (t : Int))
/-- The documents that the clauses are on. -/
def Docs (X : Cx) (f : Nat → Nat) (w : World) : Prop := ∀ t, t < X.m → w.cell? ⟨X.kb, t, none⟩ = some (.int .i64 (nextDoc (X.L t) (X.D t) (f t)))
/-- Behind split. -/
structure Spl (X : Cx) (lb lc : Nat) (w : World) : Prop where
  s8 : w.cell? ⟨X.wb, 8, none⟩ = some (.slice (some ⟨X.rb, 0, none⟩) X.m X.m)
  s9 : w.cell? ⟨X.wb, 9, none⟩ = some (.slice (some ⟨X.rb, 0, none⟩) 0 X.m)
  s10 : w.cell? ⟨X.wb, 10, none⟩ = some (.slice (some ⟨lb, 0, none⟩) 1 lc)
  l0 : w.cell? ⟨lb, 0, none⟩ = some (.float .f64 0)

theorem Coll.frm {cb limit : Nat} {v : Value} {h : Array Mt} {total B : Nat} {Xs : Nat → Prop} {w w' : World} (c : Coll cb limit v h total B w) (hf : Frm w.heap.size Xs w w') (h1 : ¬ Xs cb) (h2 : ∀ k, B ≤ k → ¬ Xs k) : Coll cb limit v h total B w' := by
  have hl := World.block_lt_of_cell? w _ c.c0
  refine ⟨hf.cell c.c0 hl h1, hf.cell c.c1 hl h1, hf.cell c.c2 hl h1, hf.cell c.c3 hl h1, hf.cell c.c4 hl h1, hf.cell c.c5 hl h1, fun i => hf.frozen (c.fz i) hl h1, ⟨c.own.1, ?_⟩, c.far, Nat.le_trans c.base hf.size⟩
  rcases c.own.2 with e | ⟨g, cap, cur, e1, e2, e3, r⟩
  · exact Or.inl e
  · exact Or.inr ⟨g, cap, cur, e1, e2, (hf.block g (Array.getElem?_eq_some_iff.1 e3).1 (h2 g e2)).trans e3, r⟩

/-- All the search's blocks lie below B. -/
structure Under (X : Cx) (B : Nat) : Prop where
  rd : ∀ k, Rd X k → k < B
  cb : X.cb < B
  wb : X.wb < B
  bb : X.bb < B
  rb : X.rb < B
  kb : X.kb < B
  sb : ∀ u, u < X.N → (X.L u).sb < B

theorem Under.mono {X : Cx} {B B' : Nat} (h : Under X B) (hb : B ≤ B') : Under X B' :=
  ⟨fun k hk => Nat.lt_of_lt_of_le (h.rd k hk) hb, Nat.lt_of_lt_of_le h.cb hb, Nat.lt_of_lt_of_le h.wb hb, Nat.lt_of_lt_of_le h.bb hb, Nat.lt_of_lt_of_le h.rb hb, Nat.lt_of_lt_of_le h.kb hb, fun u hu => Nat.lt_of_lt_of_le (h.sb u hu) hb⟩

/-- The block of the sums. -/
structure LbOk (X : Cx) (lb B : Nat) : Prop where
  lt : lb < B
  cb : lb ≠ X.cb
  wb : lb ≠ X.wb
  bb : lb ≠ X.bb
  rb : lb ≠ X.rb
  kb : lb ≠ X.kb
  ns : ¬ isS X lb
  nr : ¬ Rd X lb

/-- What a step of the search writes. -/
def Wr (X : Cx) (k : Nat) : Prop := k = X.cb ∨ isS X k

theorem rd_gb (X : Cx) : Rd X X.gb := Or.inl rfl
theorem rd_clb (X : Cx) : Rd X X.clb := Or.inr (Or.inl rfl)
theorem rd_ob (X : Cx) : Rd X X.ob := Or.inr (Or.inr (Or.inl rfl))
theorem rd_pb (X : Cx) : Rd X X.pb := Or.inr (Or.inr (Or.inr (Or.inl rfl)))
theorem rd_db (X : Cx) {u : Nat} (hu : u < X.N) : Rd X (X.L u).db := Or.inr (Or.inr (Or.inr (Or.inr ⟨u, hu, Or.inl rfl⟩)))
theorem rd_fb (X : Cx) {u : Nat} (hu : u < X.N) : Rd X (X.L u).fb := Or.inr (Or.inr (Or.inr (Or.inr ⟨u, hu, Or.inr rfl⟩)))
theorem rd_ns {X : Cx} (G : Good X) {k : Nat} (h : Rd X k) : ¬ isS X k := by
  rcases h with rfl | rfl | rfl | rfl | ⟨u, hu, rfl | rfl⟩
  · exact G.ngb
  · exact G.nclb
  · exact G.nob
  · exact G.npb
  · rintro ⟨t, ht, e⟩; exact G.sd t u ht hu e.symm
  · rintro ⟨t, ht, e⟩; exact G.sf t u ht hu e.symm
theorem rd_nw {X : Cx} (G : Good X) {k : Nat} (h : Rd X k) : ¬ Wr X k := by
  rintro (e | e)
  · exact (G.rc k h).1 e
  · exact rd_ns G h e

/-- The group stays under a step's frame. -/
theorem Grp.wr {X : Cx} (G : Good X) {B : Nat} {w w' : World} (g : Grp X w) (hf : Frm B (Wr X) w w') (hU : Under X B) : Grp X w' :=
  g.frm hf ⟨hU.rd _ (rd_gb X), rd_nw G (rd_gb X)⟩ ⟨hU.rd _ (rd_clb X), rd_nw G (rd_clb X)⟩ ⟨hU.rd _ (rd_pb X), rd_nw G (rd_pb X)⟩
theorem Win.wr {X : Cx} (G : Good X) {B : Nat} {w w' : World} (g : Win X w) (hf : Frm B (Wr X) w w') (hU : Under X B) : Win X w' :=
  g.frm hf ⟨hU.wb, fun e => e.elim (fun e => G.nd.1 e.symm) G.nwb⟩ ⟨hU.rd _ (rd_ob X), rd_nw G (rd_ob X)⟩ ⟨hU.bb, fun e => e.elim (fun e => G.nd.2.1 e.symm) G.nbb⟩ ⟨hU.rb, fun e => e.elim (fun e => G.nd.2.2.1 e.symm) G.nrb⟩ ⟨hU.kb, fun e => e.elim (fun e => G.nd.2.2.2.1 e.symm) G.nkb⟩
theorem Bnd.wr {X : Cx} (G : Good X) {B : Nat} {w w' : World} (g : Bnd X w) (hf : Frm B (Wr X) w w') (hU : Under X B) : Bnd X w' := fun t ht => hf.cell (g t ht) hU.bb (fun e => e.elim (fun e => G.nd.2.1 e.symm) G.nbb)
theorem Ord.wr {X : Cx} (G : Good X) {B : Nat} {w w' : World} (g : Ord X w) (hf : Frm B (Wr X) w w') (hU : Under X B) : Ord X w' := fun t ht => hf.cell (g t ht) hU.rb (fun e => e.elim (fun e => G.nd.2.2.1 e.symm) G.nrb)
theorem Docs.wr {X : Cx} (G : Good X) {B : Nat} {f : Nat → Nat} {w w' : World} (g : Docs X f w) (hf : Frm B (Wr X) w w') (hU : Under X B) : Docs X f w' := fun t ht => hf.cell (g t ht) hU.kb (fun e => e.elim (fun e => G.nd.2.2.2.1 e.symm) G.nkb)
theorem Spl.wr {X : Cx} (G : Good X) {B lb lc : Nat} {w w' : World} (g : Spl X lb lc w) (hf : Frm B (Wr X) w w') (hU : Under X B) (hl : LbOk X lb B) : Spl X lb lc w' :=
  ⟨hf.cell g.s8 hU.wb (fun e => e.elim (fun e => G.nd.1 e.symm) G.nwb), hf.cell g.s9 hU.wb (fun e => e.elim (fun e => G.nd.1 e.symm) G.nwb), hf.cell g.s10 hU.wb (fun e => e.elim (fun e => G.nd.1 e.symm) G.nwb), hf.cell g.l0 hl.lt (fun e => e.elim hl.cb hl.ns)⟩
end Go.Proofs.Ybulkchng
