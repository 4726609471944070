/-
  A search put together, behind newWindow.
-/
import Derived.Test.YbulkchngAsm
namespace Go.Proofs.Ybulkchng
open Go.RowKit

/-- The optional clauses' cells. -/
def cl3 (X : Cx) (t : Nat) : List Value := [occ X t, .float .f64 (fl (X.boost t)), scv X t]
def cls (X : Cx) (n : Nat) : List Value := (List.range n).flatMap (cl3 X)
theorem cls_succ (X : Cx) (n : Nat) : cls X (n + 1) = cls X n ++ cl3 X n := by simp [cls, List.range_succ, List.flatMap_append]
theorem cls_length (X : Cx) : ∀ n, (cls X n).length = n * 3
  | 0 => rfl
  | n + 1 => by rw [cls_succ, List.length_append, cls_length X n]; simp [cl3]; omega
theorem cls_get (X : Cx) : ∀ n t j, t < n → j < 3 → (cls X n)[t * 3 + j]? = (cl3 X t)[j]?
  | 0, t, j, h, _ => by omega
  | n + 1, t, j, h, hj => by
    rw [cls_succ]
    by_cases e : t < n
    · rw [List.getElem?_append_left (by rw [cls_length]; omega)]; exact cls_get X n t j e hj
    · have : t = n := by omega
      subst this
      rw [List.getElem?_append_right (by rw [cls_length]; omega), cls_length]
      congr 1; omega

theorem own_cells {w : World} {B e size b n cap : Nat} {xs : List Value} (h : w.ownsRow B e size (.slice (some ⟨b, 0, none⟩) n cap) n xs) : ∀ j u, xs[j]? = some u → w.cell? ⟨b, j, none⟩ = some u := fun j u hu => by
  rcases h.2 with ⟨q, _⟩ | ⟨g, cp, cur, q, r1, r2, r3, r4, r5, r6⟩
  · cases q
  · injection q with e1 e2 e3
    injection e1 with e1
    injection e1 with e1
    subst e1
    rw [cell_of_row _ _ j _ e (0, 0) r2]
    rw [← r6, List.getElem?_take] at hu
    split at hu
    · simpa using hu
    · cases hu

theorem assemble {Y : Cx} {g ob oc bb rb kb B : Nat} {w2 wr w3 : World} (s : Sem Y) (hM : Mk Y g Y.N w2) (hC : Cls Y w2) (ho : wr.ownsRow w2.heap.size 50 3 (.slice (some ⟨ob, 0, none⟩) Y.m oc) Y.m (cls Y Y.m)) (hg : w2.grownBy wr none)
    (hW : MadeW Y.m Y.cb g ob oc Y.base wr.heap.size bb rb kb w3) (hd : wr.heap.size < bb ∧ wr.heap.size < rb ∧ wr.heap.size < kb ∧ bb ≠ rb ∧ bb ≠ kb ∧ rb ≠ kb) (hg3 : wr.grownBy w3 none) (hc : Coll Y.cb Y.limit (.slice none 0 0) #[] 0 B w2) (hF : Fam Y 0 w2)
    (hgc : g ≠ Y.cb ∧ ¬ isS Y g) (hcc : Y.clb ≠ Y.cb ∧ ¬ isS Y Y.clb) (hpp : ∀ pv k, w2.cell? ⟨g, 3, none⟩ = some pv → pv.ownBlock = some k → k ≠ Y.cb ∧ ¬ isS Y k) (hdb : ∀ u, u < Y.N → (Y.L u).db ≤ w2.heap.size ∧ (Y.L u).fb ≤ w2.heap.size) :
    ∃ X2 : Cx, (X2.m = Y.m ∧ X2.N = Y.N ∧ X2.L = Y.L ∧ X2.D = Y.D ∧ X2.S = Y.S ∧ X2.boost = Y.boost ∧ X2.base = Y.base ∧ X2.cb = Y.cb ∧ X2.limit = Y.limit ∧ X2.n = Y.n) ∧ X2.wb = wr.heap.size ∧ X2.lo = 0 ∧ Good X2 ∧ Ready X2 (.slice none 0 0) (.slice none 0 0) #[] 0 w3.heap.size w3 ∧ Fam X2 0 w3 ∧ Under X2 w3.heap.size ∧ (∀ k, w2.heap.size ≤ k → k < w3.heap.size → ¬ Wr X2 k) ∧ (w2.heap.size ≤ X2.wb ∧ w2.heap.size ≤ X2.bb ∧ w2.heap.size ≤ X2.rb ∧ w2.heap.size ≤ X2.kb) := by
  obtain ⟨pv, p1, p2, p3⟩ := hM.pv
  have gAll : w2.grownBy w3 none := hg.trans hg3
  have obl := World.ownsRow.lt ho ob rfl
  have hgl := World.block_lt_of_cell? w2 _ hM.g0
  have hcl := World.block_lt_of_cell? w2 _ (hC.k0 0 (by have := s.m0; have := s.mN; omega))
  have hcb := World.block_lt_of_cell? w2 _ hc.c0
  have hsb : ∀ k, isS Y k → k < w2.heap.size := fun k ⟨u, hu, e⟩ => by
    obtain ⟨q, h1, _⟩ := hF u hu
    rw [e]; exact World.block_lt_of_cell? w2 _ h1.c0
  simp only at hgl hcl hcb
  have hws := hg.size
  have hobn : ob ≠ Y.cb ∧ ¬ isS Y ob := ⟨by omega, fun q => by have := hsb _ q; omega⟩
  obtain ⟨pa, pb, pc, q1, q2, q3, q4⟩ : ∃ pa pb pc, pv = .slice pa (Y.N - Y.m) pc ∧ (Y.m < Y.N → pa = some ⟨pb, 0, none⟩) ∧ (pb ≠ Y.cb ∧ ¬ isS Y pb ∧ pb < w2.heap.size) ∧ ∀ i, i < Y.N - Y.m → w2.cell? ⟨pb, i, none⟩ = some (scv Y (Y.m + i)) := by
    rcases p2.2 with ⟨e, h0⟩ | ⟨b, cap, cur, e, r1, r2, r⟩
    · exact ⟨none, g, 0, by rw [e, h0], fun h => by omega, ⟨hgc.1, hgc.2, hgl⟩, fun i hi => by omega⟩
    · have hb := hpp pv b p1 (by rw [e]; rfl)
      refine ⟨some ⟨b, 0, none⟩, b, cap, e, fun _ => rfl, ⟨hb.1, hb.2, (Array.getElem?_eq_some_iff.1 r2).1⟩, fun i hi => ?_⟩
      have := own_cells (by rw [← e]; exact p2) i (scv Y (Y.m + i)) (by simp [svs, hi])
      exact this
  refine ⟨{ Y with gb := g, ob := ob, oc := oc, pa := pa, pb := pb, pc := pc, wb := wr.heap.size, bb := bb, rb := rb, kb := kb, lo := 0, hi := 0 }, ⟨rfl, rfl, rfl, rfl, rfl, rfl, rfl, rfl, rfl, rfl⟩, rfl, rfl, ?_⟩
  have hS : Sem { Y with gb := g, ob := ob, oc := oc, pa := pa, pb := pb, pc := pc, wb := wr.heap.size, bb := bb, rb := rb, kb := kb, lo := 0, hi := 0 } := ⟨s.m0, s.mN, s.N3, s.up, s.dn, s.sc, s.ln, s.bo, s.m2, s.n1, s.ba, s.li, s.ss, s.sd, s.sf, s.cs, s.cd⟩
  have hrdl : ∀ k, Rd { Y with gb := g, ob := ob, oc := oc, pa := pa, pb := pb, pc := pc, wb := wr.heap.size, bb := bb, rb := rb, kb := kb, lo := 0, hi := 0 } k → k < wr.heap.size := fun k hk => by
    rcases hk with e | e | e | e | ⟨u, hu, e | e⟩
    · have e : k = g := e; omega
    · have e : k = Y.clb := e; omega
    · have e : k = ob := e; omega
    · have e : k = pb := e; omega
    · have e : k = (Y.L u).db := e; have := (hdb u hu).1; omega
    · have e : k = (Y.L u).fb := e; have := (hdb u hu).2; omega
  have hbbl : bb < w3.heap.size ∧ rb < w3.heap.size ∧ kb < w3.heap.size ∧ wr.heap.size < w3.heap.size := by
    obtain ⟨h0, ⟨b1, _, h1⟩, ⟨b2, _, h2⟩, ⟨b3, _, h3⟩⟩ := hW
    exact ⟨(Array.getElem?_eq_some_iff.1 h1).1, (Array.getElem?_eq_some_iff.1 h2).1, (Array.getElem?_eq_some_iff.1 h3).1, (Array.getElem?_eq_some_iff.1 h0).1⟩
  refine ⟨Good.make hS hgc hcc hobn ⟨q3.1, q3.2.1⟩ ?_ hd.1 hd.2.1 hd.2.2.1 hd.2.2.2.1 hd.2.2.2.2.1 hd.2.2.2.2.2, ?_, ?_, ?_, ?_, ⟨hws, (by show w2.heap.size ≤ bb; omega), (by show w2.heap.size ≤ rb; omega), (by show w2.heap.size ≤ kb; omega)⟩⟩
  · rintro k (h | h | h)
    · exact hrdl k h
    · have h : k = Y.cb := h
      show k < wr.heap.size
      omega
    · have := hsb k h
      show k < wr.heap.size
      omega
  · refine ready_make (gAll.cell hM.g0 (by simp)) ⟨fun t ht => gAll.cell (hC.k0 t ht) (by simp), fun t ht => gAll.cell (hC.k1 t ht) (by simp), fun t ht => gAll.cell (hC.k2 t ht) (by simp)⟩ ⟨fun t ht => ?_, fun t ht => ?_, fun t ht => ?_⟩ ⟨by rw [← q1]; exact gAll.cell p1 (by simp), q2, fun i hi => gAll.cell (q4 i hi) (by simp)⟩ hW rfl rfl ?_
    · refine hg3.cell (own_cells ho _ _ ?_) (by simp)
      have := cls_get Y Y.m t 0 ht (by omega)
      rw [Nat.add_zero] at this
      rw [this]; rfl
    · refine hg3.cell (own_cells ho _ _ ?_) (by simp)
      rw [cls_get Y Y.m t 1 ht (by omega)]; rfl
    · refine hg3.cell (own_cells ho _ _ ?_) (by simp)
      rw [cls_get Y Y.m t 2 ht (by omega)]; rfl
    · have c' := hc.kept gAll (by simp) (by simp)
      exact ⟨c'.c0, c'.c1, c'.c2, c'.c3, c'.c4, c'.c5, c'.fz, World.ownsRow_nil _ _ _ _, by have := gAll.size; show Y.cb < _; omega, Nat.le_refl _⟩
  · exact hF.kept gAll (fun u hu => ⟨by simp, by simp, by simp⟩)
  · have h3 := hg3.size
    refine ⟨fun k hk => by have := hrdl k hk; omega, by show Y.cb < _; omega, hbbl.2.2.2, hbbl.1, hbbl.2.1, hbbl.2.2.1, fun u hu => ?_⟩
    have := hsb (Y.L u).sb ⟨u, hu, rfl⟩
    show (Y.L u).sb < _
    omega
  · rintro k hk _ (e | e)
    · have e : k = Y.cb := e; omega
    · have := hsb k e; omega
end Go.Proofs.Ybulkchng
