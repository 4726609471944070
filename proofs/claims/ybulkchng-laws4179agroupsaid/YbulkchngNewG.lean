/-
  newGroupScorer.
-/
import Derived.Test.YbulkchngNewW
namespace Go.Proofs.Ybulkchng
open Go.RowKit
attribute [local go_sem] run_store_float

theorem info48 : (Yba.prog.info? 48).map (fun i => (i.size, i.bytes, i.zero.map (fun z => z.cells.size))) = some (1, 16, some 1) := by kernel_rfl
theorem info_parts48 : ∃ i z, Yba.prog.info? 48 = some i ∧ i.zero = some z ∧ i.size = 1 ∧ i.bytes = 16 ∧ z.cells.size = 1 := by
  obtain ⟨i, hi, h⟩ := Option.map_eq_some_iff.1 info48
  simp only [Prod.mk.injEq] at h
  obtain ⟨z, hz, hzs⟩ := Option.map_eq_some_iff.1 h.2.2
  exact ⟨i, z, hi, hz, h.1, h.2.1, hzs⟩

/-- The clauses' cells. -/
structure Cls (X : Cx) (w : World) : Prop where
  k0 : ∀ t, t < X.N → w.cell? ⟨X.clb, t * 3, none⟩ = some (occ X t)
  k1 : ∀ t, t < X.N → w.cell? ⟨X.clb, t * 3 + 1, none⟩ = some (.float .f64 (fl (X.boost t)))
  k2 : ∀ t, t < X.N → w.cell? ⟨X.clb, t * 3 + 2, none⟩ = some (scv X t)
theorem Cls.kept {X : Cx} {w w' : World} (h : Cls X w) (hg : w.grownBy w' none) : Cls X w' :=
  ⟨fun t ht => hg.cell (h.k0 t ht) (by simp), fun t ht => hg.cell (h.k1 t ht) (by simp), fun t ht => hg.cell (h.k2 t ht) (by simp)⟩

def svs (X : Cx) (a n : Nat) : List Value := (List.range n).map fun i => scv X (a + i)
theorem svs_succ (X : Cx) (a n : Nat) : svs X a (n + 1) = svs X a n ++ [scv X (a + n)] := by simp [svs, List.range_succ]

/-- A group under way. -/
structure Mk (X : Cx) (g i : Nat) (w : World) : Prop where
  g0 : w.cell? ⟨g, 0, none⟩ = some (.slice (some ⟨X.clb, 0, none⟩) X.N X.cc)
  g1 : w.cell? ⟨g, 1, none⟩ = some (.slice none 0 0)
  fz : ∀ j, w.frozen? ⟨g, j, none⟩ = false
  ov : ∃ ov, w.cell? ⟨g, 2, none⟩ = some ov ∧ (i ≤ X.m → w.ownsRow (g + 1) 48 1 ov i (svs X 0 i))
  pv : ∃ pv, w.cell? ⟨g, 3, none⟩ = some pv ∧ w.ownsRow (g + 1) 48 1 pv (i - X.m) (svs X X.m (i - X.m)) ∧ (i ≤ X.m → pv = .slice none 0 0)

theorem Mk.opt {X : Cx} {i gg cap2 : Nat} {w wr Wz w4 : World} {vv : Value} (h : Mk X w.heap.size i wr) (him : i < X.m) (hG : w.grownBy wr none) (hsz : w.heap.size + 1 ≤ wr.heap.size) (ho : wr.ownsRow (w.heap.size + 1) 48 1 vv i (svs X 0 i)) (z1 : wr.grownBy Wz none) (z2 : Wz.grownBy w4 vv.ownBlock)
    (ho4 : w4.ownsRow (w.heap.size + 1) 48 1 (.slice (some ⟨gg, 0, none⟩) (i + 1) cap2) (i + 1) ((svs X 0 i) ++ [.iface 28 (.pointer (some ⟨(X.L i).sb, 0, none⟩))])) (hcc : w4.cell? ⟨w.heap.size, 2, none⟩ = some vv) :
    Mk X w.heap.size (i + 1) (w4.setCell ⟨w.heap.size, 2, none⟩ (.slice (some ⟨gg, 0, none⟩) (i + 1) cap2)) ∧ w.grownBy (w4.setCell ⟨w.heap.size, 2, none⟩ (.slice (some ⟨gg, 0, none⟩) (i + 1) cap2)) none ∧ w.heap.size + 1 ≤ (w4.setCell ⟨w.heap.size, 2, none⟩ (.slice (some ⟨gg, 0, none⟩) (i + 1) cap2)).heap.size := by
  have rw' : ∀ k, vv.ownBlock = some k → w.heap.size + 1 ≤ k := fun k e => (World.ownsRow.lt ho k e).1
  have ne : some w.heap.size ≠ vv.ownBlock := fun e => by have := rw' _ e.symm; omega
  have gs := grown_setCell w4 ⟨w.heap.size, 2, none⟩ (.slice (some ⟨gg, 0, none⟩) (i + 1) cap2)
  have hgg : gg ≠ w.heap.size := by have := (World.ownsRow.lt ho4 gg rfl).1; omega
  obtain ⟨pv, p1, p2, p3⟩ := h.pv
  have e := p3 (by omega)
  subst e
  refine ⟨⟨cell_set_ne (keepC h.g0 z1 z2 ne) (Or.inr (by omega)), cell_set_ne (keepC h.g1 z1 z2 ne) (Or.inr (by omega)), fun j => ?_, ⟨_, World.cell?_setCell_same _ _ _ hcc, fun _ => ?_⟩, ⟨.slice none 0 0, cell_set_ne (keepC p1 z1 z2 ne) (Or.inr (by omega)), ?_, fun _ => rfl⟩⟩, ?_, ?_⟩
  · rw [World.frozen?_setCell]
    exact ((World.frozen?_of_block (z2.block w.heap.size (by have := z1.size; omega) ne)).trans (World.frozen?_of_block (z1.block w.heap.size (by omega) (by simp)))).trans (h.fz j)
  · rw [svs_succ]
    have q := World.ownsRow.kept ho4 gs (Or.inr fun e => hgg (by injection e))
    simpa [scv] using q
  · have : i + 1 - X.m = 0 := by omega
    rw [this]; exact World.ownsRow_nil _ _ _ _
  · exact grown_rows (grown_rows (hG.trans z1) z2 (fun k e => by have := rw' k e; omega)) gs (fun k e => by injection e with e; subst e; exact Nat.le_refl _)
  · have := z1.size; have := z2.size; simp [World.setCell]; omega

theorem Mk.pro {X : Cx} {i gg cap2 : Nat} {w wr Wz w4 : World} {vv : Value} (h : Mk X w.heap.size i wr) (him : ¬ i < X.m) (hG : w.grownBy wr none) (hsz : w.heap.size + 1 ≤ wr.heap.size) (ho : wr.ownsRow (w.heap.size + 1) 48 1 vv (i - X.m) (svs X X.m (i - X.m))) (z1 : wr.grownBy Wz none) (z2 : Wz.grownBy w4 vv.ownBlock)
    (ho4 : w4.ownsRow (w.heap.size + 1) 48 1 (.slice (some ⟨gg, 0, none⟩) ((i - X.m) + 1) cap2) ((i - X.m) + 1) ((svs X X.m (i - X.m)) ++ [.iface 28 (.pointer (some ⟨(X.L i).sb, 0, none⟩))])) (hcc : w4.cell? ⟨w.heap.size, 3, none⟩ = some vv) :
    Mk X w.heap.size (i + 1) (w4.setCell ⟨w.heap.size, 3, none⟩ (.slice (some ⟨gg, 0, none⟩) ((i - X.m) + 1) cap2)) ∧ w.grownBy (w4.setCell ⟨w.heap.size, 3, none⟩ (.slice (some ⟨gg, 0, none⟩) ((i - X.m) + 1) cap2)) none ∧ w.heap.size + 1 ≤ (w4.setCell ⟨w.heap.size, 3, none⟩ (.slice (some ⟨gg, 0, none⟩) ((i - X.m) + 1) cap2)).heap.size := by
  have rw' : ∀ k, vv.ownBlock = some k → w.heap.size + 1 ≤ k := fun k e => (World.ownsRow.lt ho k e).1
  have ne : some w.heap.size ≠ vv.ownBlock := fun e => by have := rw' _ e.symm; omega
  have gs := grown_setCell w4 ⟨w.heap.size, 3, none⟩ (.slice (some ⟨gg, 0, none⟩) ((i - X.m) + 1) cap2)
  have hgg : gg ≠ w.heap.size := by have := (World.ownsRow.lt ho4 gg rfl).1; omega
  obtain ⟨ov, p1, p2⟩ := h.ov
  refine ⟨⟨cell_set_ne (keepC h.g0 z1 z2 ne) (Or.inr (by omega)), cell_set_ne (keepC h.g1 z1 z2 ne) (Or.inr (by omega)), fun j => ?_, ⟨ov, cell_set_ne (keepC p1 z1 z2 ne) (Or.inr (by omega)), fun q => by omega⟩, ⟨_, World.cell?_setCell_same _ _ _ hcc, ?_, fun q => by omega⟩⟩, ?_, ?_⟩
  · rw [World.frozen?_setCell]
    exact ((World.frozen?_of_block (z2.block w.heap.size (by have := z1.size; omega) ne)).trans (World.frozen?_of_block (z1.block w.heap.size (by omega) (by simp)))).trans (h.fz j)
  · have e : i + 1 - X.m = (i - X.m) + 1 := by omega
    rw [e, svs_succ]
    have q := World.ownsRow.kept ho4 gs (Or.inr fun e => hgg (by injection e))
    have e2 : X.m + (i - X.m) = i := by omega
    rw [e2]
    simpa [scv] using q
  · exact grown_rows (grown_rows (hG.trans z1) z2 (fun k e => by have := rw' k e; omega)) gs (fun k e => by injection e with e; subst e; exact Nat.le_refl _)
  · have := z1.size; have := z2.size; simp [World.setCell]; omega

set_option maxHeartbeats 6400000 in
set_option maxRecDepth 100000 in
theorem newGroup_any (X : Cx) (w : World) (hN : X.N ≤ 3) (hc : Cls X w) :
    Calls Yba.prog 9 #[.slice (some ⟨X.clb, 0, none⟩) X.N X.cc] w fun e w' => e = .returned (.pointer (some ⟨w.heap.size, 0, none⟩)) ∧ Mk X w.heap.size X.N w' ∧ w.grownBy w' none := by
  obtain ⟨i0, z0, hi0, hz0, hz1, hz2, hz3⟩ := info_parts48
  have HC : Hid (Cls X w) := hc
  obtain ⟨W1, hW1⟩ : ∃ W1, W1 = w.alloc (.cells #[.slice (some ⟨X.clb, 0, none⟩) X.N X.cc, .slice none 0 0, .slice none 0 0, .slice none 0 0, .int .i64 (-1), .float .f64 0, .bool false] 63) := ⟨_, rfl⟩
  have hg1 : w.grownBy W1 none := by rw [hW1]; exact World.grownBy_alloc _ _ none
  have hs1 : W1.heap.size = w.heap.size + 1 := by rw [hW1]; simp
  have hb1 : W1.heap[w.heap.size]? = some (.cells #[.slice (some ⟨X.clb, 0, none⟩) X.N X.cc, .slice none 0 0, .slice none 0 0, .slice none 0 0, .int .i64 (-1), .float .f64 0, .bool false] 63 (0, 0)) := by rw [hW1]; exact heap_alloc_new _ _
  have HM : Hid (Mk X w.heap.size 0 W1 ∧ w.grownBy W1 none ∧ W1.heap.size = w.heap.size + 1) := (by
    refine ⟨⟨?_, ?_, fun j => frozen_of_row _ _ j _ 63 hb1, ⟨.slice none 0 0, ?_, fun _ => World.ownsRow_nil _ _ _ _⟩, ⟨.slice none 0 0, ?_, ?_, fun _ => rfl⟩⟩, hg1, hs1⟩
    · rw [cell_of_row _ _ 0 _ 63 (0, 0) hb1]; rfl
    · rw [cell_of_row _ _ 1 _ 63 (0, 0) hb1]; rfl
    · rw [cell_of_row _ _ 2 _ 63 (0, 0) hb1]; rfl
    · rw [cell_of_row _ _ 3 _ 63 (0, 0) hb1]; rfl
    · simp only [Nat.zero_sub]; exact World.ownsRow_nil _ _ _ _)
  have HW1 := hW1.symm
  clear hc hg1 hs1 hb1 hW1
  go_enter Yba.func9, Yba.ntmps9
  go_wp2
  go_loopw [11] (fun vi wr => ∃ i : Nat, vi = .int .i64 i ∧ i ≤ X.N ∧ Mk X w.heap.size i wr ∧ w.grownBy wr none ∧ w.heap.size + 1 ≤ wr.heap.size) (fun vi _ => X.N - (intOf vi).toNat)
  case atStart => exact ⟨0, rfl, Nat.zero_le _, HM.out.1, HM.out.2.1, by have := HM.out.2.2; omega⟩
  case round =>
    clear HM
    obtain ⟨i, rfl, hi, hM, hG, hsz⟩ := hrel
    have HM : Hid (Mk X w.heap.size i wr ∧ w.grownBy wr none) := ⟨hM, hG⟩
    clear hM hG
    by_cases hiN : i < X.N
    · have hii : (i : Int) < (X.N : Int) := by omega
      have k0 := HM.out.2.cell (HC.out.k0 i hiN) (by simp)
      have k1 := HM.out.2.cell (HC.out.k1 i hiN) (by simp)
      have k2 := HM.out.2.cell (HC.out.k2 i hiN) (by simp)
      unfold scv at k2
      unfold occ at k0
      by_cases him : i < X.m
      · rw [if_pos him] at k0
        go_wp2
        have HWg : Hid (wr.grownBy (wr.alloc (.cells #[.string { data := #[111, 112, 116, 105, 111, 110, 97, 108] }, .float .f64 (fl (X.boost i)), .iface 28 (.pointer (some ⟨(X.L i).sb, 0, none⟩))] 50)) none) := World.grownBy_alloc _ _ none
        have q2 : (wr.alloc (.cells #[.string { data := #[111, 112, 116, 105, 111, 110, 97, 108] }, .float .f64 (fl (X.boost i)), .iface 28 (.pointer (some ⟨(X.L i).sb, 0, none⟩))] 50)).cell? ⟨wr.heap.size, 2, none⟩ = some (.iface 28 (.pointer (some ⟨(X.L i).sb, 0, none⟩))) := by rw [World.cell?_alloc_new]; rfl
        obtain ⟨vv, hv1, hv2⟩ := HM.out.1.ov
        have c2 := HWg.out.cell hv1 (by simp)
        have f2 : (wr.alloc (.cells #[.string { data := #[111, 112, 116, 105, 111, 110, 97, 108] }, .float .f64 (fl (X.boost i)), .iface 28 (.pointer (some ⟨(X.L i).sb, 0, none⟩))] 50)).frozen? ⟨w.heap.size, 2, none⟩ = false := (World.frozen?_of_block (HWg.out.block w.heap.size (by omega) (by simp))).trans (HM.out.1.fz 2)
        have HSw : Hid ((wr.alloc (.cells #[.string { data := #[111, 112, 116, 105, 111, 110, 97, 108] }, .float .f64 (fl (X.boost i)), .iface 28 (.pointer (some ⟨(X.L i).sb, 0, none⟩))] 50)).heap.size = wr.heap.size + 1) := show _ = _ by simp
        clear k0 k1 k2
        generalize wr.alloc (.cells #[.string { data := #[111, 112, 116, 105, 111, 110, 97, 108] }, .float .f64 (fl (X.boost i)), .iface 28 (.pointer (some ⟨(X.L i).sb, 0, none⟩))] 50) = Wa at HWg q2 c2 f2 HSw ⊢
        have HOwn : Hid (∀ W, Wa.grownBy W none → W.ownsRow (w.heap.size + 1) 48 1 vv i (svs X 0 i)) := fun W hW => World.ownsRow.kept (hv2 (by omega)) (HWg.out.trans hW) (Classical.em _)
        have c2a : (Wa.alloc (.cells #[.iface 28 (.pointer (some ⟨(X.L i).sb, 0, none⟩))] 48)).cell? ⟨w.heap.size, 2, none⟩ = some vv := (World.grownBy_alloc Wa _ none).cell c2 (by simp)
        have HNe : Hid (some w.heap.size ≠ vv.ownBlock) := fun e => by have := (World.ownsRow.lt (hv2 (by omega)) _ e.symm).1; omega
        have hba : w.heap.size + 1 ≤ Wa.heap.size := by have := HSw.out; omega
        have hml : i + 1 ≤ maxLen := by unfold maxLen; omega
        go_region_law
          (first | (refine step_append_lies _ (by rfl) (.tmp 36) (.tmp 39) 61 (by rfl) (w.heap.size + 1) 48 i0 _ 1 16 Yba.underlying61 hi0 hz0 hz1 hz2 hz3 (by omega) vv i (svs X 0 i) (by rfl) (HOwn.out _ (by first | exact (grown_drew _).trans (World.grownBy_alloc _ _ _) | exact (World.grownBy_alloc _ _ _).trans (grown_drew _))) ⟨Wa.heap.size, 0, none⟩ 1 1 [.iface 28 (.pointer (some ⟨(X.L i).sb, 0, none⟩))] (by rfl) (by rfl) (World.news_of_block (cs := #[.iface 28 (.pointer (some ⟨(X.L i).sb, 0, none⟩))]) (t := 48) (fr := (0, 0)) (heap_alloc_new Wa _)) (by simp [Value.oneCell']) (by omega) hml (by omega) (by simp; omega) (Wa.heap.size + 1) (by simp) ?_; intro gg cap2 w4 hown4 hgrow hat hlt; have hfz4 : w4.frozen? ⟨w.heap.size, 2, none⟩ = false := (by first | exact keepF f2 c2 ((World.grownBy_alloc _ _ _).trans (grown_drew _)) hgrow HNe.out | exact keepF f2 c2 ((grown_drew _).trans (World.grownBy_alloc _ _ _)) hgrow HNe.out); have hcc4 : w4.cell? ⟨w.heap.size, 2, none⟩ = some vv := (by first | exact keepC c2 ((World.grownBy_alloc _ _ _).trans (grown_drew _)) hgrow HNe.out | exact keepC c2 ((grown_drew _).trans (World.grownBy_alloc _ _ _)) hgrow HNe.out); have HG4 : Hid (∃ Wz, wr.grownBy Wz none ∧ Wz.grownBy w4 vv.ownBlock) := (by first | exact ⟨_, HWg.out.trans ((World.grownBy_alloc Wa _ none).trans (grown_drew _)), hgrow⟩ | exact ⟨_, HWg.out.trans ((grown_drew Wa).trans (World.grownBy_alloc _ _ none)), hgrow⟩); have HO4 : Hid (w4.ownsRow (w.heap.size + 1) 48 1 (.slice (some ⟨gg, 0, none⟩) (i + 1) cap2) (i + 1) ((svs X 0 i) ++ [.iface 28 (.pointer (some ⟨(X.L i).sb, 0, none⟩))])) := hown4; clear hown4 hgrow hat hlt))
        all_goals
          clear q2 c2a
          go_wp2
          go_roundw
          case measure => simp [intOf]; omega
          case rel =>
            obtain ⟨Wz, z1, z2⟩ := HG4.out
            exact ⟨i + 1, rfl, by omega, HM.out.1.opt him HM.out.2 hsz (hv2 (by omega)) z1 z2 HO4.out hcc4⟩
      · rw [if_neg him] at k0
        go_wp2
        have HWg : Hid (wr.grownBy (wr.alloc (.cells #[.string { data := #[112, 114, 111, 104, 105, 98, 105, 116, 101, 100] }, .float .f64 (fl (X.boost i)), .iface 28 (.pointer (some ⟨(X.L i).sb, 0, none⟩))] 50)) none) := World.grownBy_alloc _ _ none
        have q2 : (wr.alloc (.cells #[.string { data := #[112, 114, 111, 104, 105, 98, 105, 116, 101, 100] }, .float .f64 (fl (X.boost i)), .iface 28 (.pointer (some ⟨(X.L i).sb, 0, none⟩))] 50)).cell? ⟨wr.heap.size, 2, none⟩ = some (.iface 28 (.pointer (some ⟨(X.L i).sb, 0, none⟩))) := by rw [World.cell?_alloc_new]; rfl
        obtain ⟨vv, hv1, hv2⟩ := HM.out.1.pv
        have c2 := HWg.out.cell hv1 (by simp)
        have f2 : (wr.alloc (.cells #[.string { data := #[112, 114, 111, 104, 105, 98, 105, 116, 101, 100] }, .float .f64 (fl (X.boost i)), .iface 28 (.pointer (some ⟨(X.L i).sb, 0, none⟩))] 50)).frozen? ⟨w.heap.size, 3, none⟩ = false := (World.frozen?_of_block (HWg.out.block w.heap.size (by omega) (by simp))).trans (HM.out.1.fz 3)
        have HSw : Hid ((wr.alloc (.cells #[.string { data := #[112, 114, 111, 104, 105, 98, 105, 116, 101, 100] }, .float .f64 (fl (X.boost i)), .iface 28 (.pointer (some ⟨(X.L i).sb, 0, none⟩))] 50)).heap.size = wr.heap.size + 1) := show _ = _ by simp
        clear k0 k1 k2
        generalize wr.alloc (.cells #[.string { data := #[112, 114, 111, 104, 105, 98, 105, 116, 101, 100] }, .float .f64 (fl (X.boost i)), .iface 28 (.pointer (some ⟨(X.L i).sb, 0, none⟩))] 50) = Wa at HWg q2 c2 f2 HSw ⊢
        have HOwn : Hid (∀ W, Wa.grownBy W none → W.ownsRow (w.heap.size + 1) 48 1 vv (i - X.m) (svs X X.m (i - X.m))) := fun W hW => World.ownsRow.kept hv2.1 (HWg.out.trans hW) (Classical.em _)
        have c2a : (Wa.alloc (.cells #[.iface 28 (.pointer (some ⟨(X.L i).sb, 0, none⟩))] 48)).cell? ⟨w.heap.size, 3, none⟩ = some vv := (World.grownBy_alloc Wa _ none).cell c2 (by simp)
        have HNe : Hid (some w.heap.size ≠ vv.ownBlock) := fun e => by have := (World.ownsRow.lt hv2.1 _ e.symm).1; omega
        have hba : w.heap.size + 1 ≤ Wa.heap.size := by have := HSw.out; omega
        have hml : (i - X.m) + 1 ≤ maxLen := by unfold maxLen; omega
        go_region_law
          (first | (refine step_append_lies _ (by rfl) (.tmp 49) (.tmp 52) 61 (by rfl) (w.heap.size + 1) 48 i0 _ 1 16 Yba.underlying61 hi0 hz0 hz1 hz2 hz3 (by omega) vv (i - X.m) (svs X X.m (i - X.m)) (by rfl) (HOwn.out _ (by first | exact (grown_drew _).trans (World.grownBy_alloc _ _ _) | exact (World.grownBy_alloc _ _ _).trans (grown_drew _))) ⟨Wa.heap.size, 0, none⟩ 1 1 [.iface 28 (.pointer (some ⟨(X.L i).sb, 0, none⟩))] (by rfl) (by rfl) (World.news_of_block (cs := #[.iface 28 (.pointer (some ⟨(X.L i).sb, 0, none⟩))]) (t := 48) (fr := (0, 0)) (heap_alloc_new Wa _)) (by simp [Value.oneCell']) (by omega) hml (by omega) (by simp; omega) (Wa.heap.size + 1) (by simp) ?_; intro gg cap2 w4 hown4 hgrow hat hlt; have hfz4 : w4.frozen? ⟨w.heap.size, 3, none⟩ = false := (by first | exact keepF f2 c2 ((World.grownBy_alloc _ _ _).trans (grown_drew _)) hgrow HNe.out | exact keepF f2 c2 ((grown_drew _).trans (World.grownBy_alloc _ _ _)) hgrow HNe.out); have hcc4 : w4.cell? ⟨w.heap.size, 3, none⟩ = some vv := (by first | exact keepC c2 ((World.grownBy_alloc _ _ _).trans (grown_drew _)) hgrow HNe.out | exact keepC c2 ((grown_drew _).trans (World.grownBy_alloc _ _ _)) hgrow HNe.out); have HG4 : Hid (∃ Wz, wr.grownBy Wz none ∧ Wz.grownBy w4 vv.ownBlock) := (by first | exact ⟨_, HWg.out.trans ((World.grownBy_alloc Wa _ none).trans (grown_drew _)), hgrow⟩ | exact ⟨_, HWg.out.trans ((grown_drew Wa).trans (World.grownBy_alloc _ _ none)), hgrow⟩); have HO4 : Hid (w4.ownsRow (w.heap.size + 1) 48 1 (.slice (some ⟨gg, 0, none⟩) ((i - X.m) + 1) cap2) ((i - X.m) + 1) ((svs X X.m (i - X.m)) ++ [.iface 28 (.pointer (some ⟨(X.L i).sb, 0, none⟩))])) := hown4; clear hown4 hgrow hat hlt))
        all_goals
          clear q2 c2a
          go_wp2
          go_roundw
          case measure => simp [intOf]; omega
          case rel =>
            obtain ⟨Wz, z1, z2⟩ := HG4.out
            exact ⟨i + 1, rfl, by omega, HM.out.1.pro him HM.out.2 hsz hv2.1 z1 z2 HO4.out hcc4⟩
    · have hii : ¬ (i : Int) < (X.N : Int) := by omega
      obtain rfl : i = X.N := by omega
      go_wp2
      go_ret
      exact ⟨rfl, HM.out.1, HM.out.2⟩
end Go.Proofs.Ybulkchng
