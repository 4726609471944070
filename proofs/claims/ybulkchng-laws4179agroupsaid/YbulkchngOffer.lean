/-
  (*topDocs).offer.
-/
import Derived.Test.YbulkchngFrm
import Derived.Deep.RegionHeld3
import Derived.Deep.DrawnRows
import Derived.Deep.RegionLaw
namespace Go.Proofs.Ybulkchng
open Go.RowKit Go.Sort
attribute [local go_sem] run_store_float

theorem info40 : (Yba.prog.info? 40).map (fun i => (i.size, i.bytes, i.zero.map (fun z => z.cells.size))) = some (2, 16, some 2) := by kernel_rfl
theorem info_parts40 : ∃ i z, Yba.prog.info? 40 = some i ∧ i.zero = some z ∧ i.size = 2 ∧ i.bytes = 16 ∧ z.cells.size = 2 := by
  obtain ⟨i, hi, h⟩ := Option.map_eq_some_iff.1 info40
  simp only [Prod.mk.injEq] at h
  obtain ⟨z, hz, hzs⟩ := Option.map_eq_some_iff.1 h.2.2
  exact ⟨i, z, hi, hz, h.1, h.2.1, hzs⟩

theorem keepC {W1 W W2 : World} {a : Addr} {x : Value} {row : Option Nat} (c : W1.cell? a = some x) (h1 : W1.grownBy W none) (h2 : W.grownBy W2 row) (hne : some a.block ≠ row) : W2.cell? a = some x := h2.cell (h1.cell c (by simp)) hne
theorem keepF {W1 W W2 : World} {a : Addr} {x : Value} {row : Option Nat} (f : W1.frozen? a = false) (c : W1.cell? a = some x) (h1 : W1.grownBy W none) (h2 : W.grownBy W2 row) (hne : some a.block ≠ row) : W2.frozen? a = false := by
  have l1 := World.block_lt_of_cell? W1 _ c
  have l2 := Nat.lt_of_lt_of_le l1 h1.size
  exact ((World.frozen?_of_block (h2.block a.block l2 hne)).trans (World.frozen?_of_block (h1.block a.block l1 (by simp)))).trans f

theorem Coll.slice {cb limit : Nat} {v : Value} {h : Array Mt} {total B : Nat} {w : World} (c : Coll cb limit v h total B w) : ∃ ad cap, v = .slice ad h.size cap := by
  rcases c.own.2 with ⟨h1, h2⟩ | ⟨g, cap, cur, h1, _⟩
  · exact ⟨none, 0, by rw [h1, h2]⟩
  · exact ⟨_, _, h1⟩

theorem up_start {h : Array Mt} (hk : HeapOk h) (m : Mt) : UpOk (h.push m) h.size := by
  have g : ∀ i, i < h.size → (h.push m)[i]! = h[i]! := fun i hi => by
    rw [getElem!_pos _ i (by simp; omega), getElem!_pos h i hi, Array.getElem_push_lt hi]
  refine ⟨fun i h0 hi he => ?_, fun i h0 hi he h1 => ?_⟩
  · simp at hi
    rw [g i (by omega), g ((i - 1) / 2) (by omega)]; exact hk i h0 (by omega)
  · simp at hi; omega
theorem small_perm {h h' : Array Mt} {m : Mt} (hp : h'.toList.Perm (h.toList ++ [m])) (hs : ∀ t, t < h.size → h[t]!.2 < 1024) (hm : m.2 < 1024) (t : Nat) (ht : t < h'.size) : h'[t]!.2 < 1024 := by
  have hx : h'[t]! ∈ h'.toList := by rw [getElem!_pos h' t ht]; simp
  rcases List.mem_append.1 (hp.mem_iff.1 hx) with h1 | h1
  · obtain ⟨i, hi, e⟩ := mem_get h1; rw [← e]; exact hs i hi
  · have : h'[t]! = m := by simpa using h1
    rw [this]; exact hm
theorem swp_perm (h : Array Mt) (i j : Nat) (hi : i < h.size) (hj : j < h.size) : (swp h i j).toList.Perm h.toList := by
  have := (swp_permIn h 0 h.size i j (by omega) hi (by omega) hj (Nat.le_refl _)).2.2
  have e : (swp h i j).size = h.size := swp_size h i j
  have e1 : (swp h i j).extract 0 h.size = swp h i j := by rw [← e]; simp
  have e2 : h.extract 0 h.size = h := by simp
  rwa [e1, e2] at this

set_option maxHeartbeats 6400000 in
set_option maxRecDepth 100000 in
theorem offer_more (cb limit : Nat) (v : Value) (h : Array Mt) (total B : Nat) (m : Mt) (w : World) (c : Coll cb limit v h total B w) (hm : m.2 < 1024) (hl : h.size < limit) (hb : limit ≤ 12) (hk : HeapOk h) (hsm : ∀ t, t < h.size → h[t]!.2 < 1024) :
    Calls Yba.prog 32 #[.pointer (some ⟨cb, 0, none⟩), ev m] w fun e w' => e = .returned (.tuple #[]) ∧ ∃ v' h', Coll cb limit v' h' total B w' ∧ h'.toList.Perm (h.toList ++ [m]) ∧ HeapOk h' ∧ Frm B (· = cb) w w' := by
  obtain ⟨i0, z0, hi0, hz0, hz1, hz2, hz3⟩ := info_parts40
  obtain ⟨ad, cap, rfl⟩ := c.slice
  have c0 := c.c0
  have c1 := c.c1
  have z1 := c.fz 1
  have hlti : decide ((h.size : Int) < (limit : Int)) = true := by simp; omega
  have HC : Hid (Coll cb limit (.slice ad h.size cap) h total B w) := c
  have hcb := c.far
  have hbs := c.base
  have lcb := World.block_lt_of_cell? w _ c0
  have HK : Hid (HeapOk h ∧ ∀ t, t < h.size → h[t]!.2 < 1024) := ⟨hk, hsm⟩
  simp only at lcb
  clear c hk hsm
  unfold ev
  go_enter Yba.func32, Yba.ntmps32
  go_wp2
  go_quiet (fail)
  go_wp2
  have hg1 : w.grownBy ((w.alloc (.cells #[.int .i64 m.1, .float .f64 (fl m.2)] 40)).drewN nq) none := (World.grownBy_alloc _ _ none).trans (grown_drewN _ _)
  have m0 : ((w.alloc (.cells #[.int .i64 m.1, .float .f64 (fl m.2)] 40)).drewN nq).cell? ⟨w.heap.size, 0, none⟩ = some (.int .i64 m.1) := (grown_drewN _ _).cell (World.cell?_alloc_new w _ 40 0) (by simp)
  have m1 : ((w.alloc (.cells #[.int .i64 m.1, .float .f64 (fl m.2)] 40)).drewN nq).cell? ⟨w.heap.size, 1, none⟩ = some (.float .f64 (fl m.2)) := (grown_drewN _ _).cell (World.cell?_alloc_new w _ 40 1) (by simp)
  have hs1 : ((w.alloc (.cells #[.int .i64 m.1, .float .f64 (fl m.2)] 40)).drewN nq).heap.size = w.heap.size + 1 := by simp
  generalize ((w.alloc (.cells #[.int .i64 m.1, .float .f64 (fl m.2)] 40)).drewN nq) = W1 at hg1 m0 m1 hs1 ⊢
  have HC1 : Hid (Coll cb limit (.slice ad h.size cap) h total B W1) := HC.out.kept hg1 (by simp) (by simp)
  have d1 := HC1.out.c1
  have f1 := HC1.out.fz 1
  have HOwn : Hid (∀ W, W1.grownBy W none → W.ownsRow B 40 2 (.slice ad h.size cap) h.size (flat h.toList)) := fun W hW => World.ownsRow.kept HC1.out.own hW (by simp [Value.ownBlock]; cases ad <;> simp)
  have hml : h.size + 1 ≤ maxLen := by unfold maxLen; omega
  have hbk : (h.size + 1) * 16 ≤ 140737488355328 := by omega
  have HG1 : Hid (w.grownBy W1 none) := hg1
  have HS1 : Hid (W1.heap.size = w.heap.size + 1) := hs1
  have hB1 : B ≤ W1.heap.size := HC1.out.base
  have HF : Hid (some cb ≠ (Value.slice ad h.size cap).ownBlock ∧ some w.heap.size ≠ (Value.slice ad h.size cap).ownBlock) := ⟨fun e => OwnM.far HC.out.own hcb e.symm, fun e => by have := World.ownsRow.lt HC.out.own _ e.symm; omega⟩
  have d1a : (W1.alloc (.cells #[.int .i64 m.1, .float .f64 (fl m.2)] 40)).cell? ⟨cb, 1, none⟩ = some (.slice ad h.size cap) := (World.grownBy_alloc W1 _ none).cell d1 (by simp)
  clear c0 c1 z1 hg1 hs1
  go_region_law
    (first | (refine step_append_lies _ (by rfl) (.tmp 24) (.tmp 26) 32 (by rfl) B 40 i0 _ 2 16 Yba.underlying32 hi0 hz0 hz1 hz2 hz3 (by omega) (.slice ad h.size cap) h.size (flat h.toList) (by rfl) (HOwn.out _ (by first | exact (grown_drew _).trans (World.grownBy_alloc _ _ _) | exact (World.grownBy_alloc _ _ _).trans (grown_drew _))) ⟨W1.heap.size, 0, none⟩ 1 1 [.int .i64 m.1, .float .f64 (fl m.2)] (by rfl) (by rfl) (World.news_of_block (cs := #[.int .i64 m.1, .float .f64 (fl m.2)]) (t := 40) (fr := (0, 0)) (heap_alloc_new W1 _)) (by simp [Value.oneCell']) (by omega) hml hbk (by simp; omega) (W1.heap.size + 1) (by simp) ?_; intro gg cap2 w2 hown2 hgrow hat hlt; have hfz2 : w2.frozen? ⟨cb, 1, none⟩ = false := (by first | exact keepF f1 d1 ((World.grownBy_alloc _ _ _).trans (grown_drew _)) hgrow HF.out.1 | exact keepF f1 d1 ((grown_drew _).trans (World.grownBy_alloc _ _ _)) hgrow HF.out.1); have hcc2 : w2.cell? ⟨cb, 1, none⟩ = some (.slice ad h.size cap) := (by first | exact keepC d1 ((World.grownBy_alloc _ _ _).trans (grown_drew _)) hgrow HF.out.1 | exact keepC d1 ((grown_drew _).trans (World.grownBy_alloc _ _ _)) hgrow HF.out.1)))
  all_goals
    have HA : Hid (Coll cb limit (.slice (some ⟨gg, 0, none⟩) (h.push m).size cap2) (h.push m) total B (w2.setCell ⟨cb, 1, none⟩ (.slice (some ⟨gg, 0, none⟩) (h.push m).size cap2))) := (by first | exact HC1.out.appended ((World.grownBy_alloc _ _ _).trans (grown_drew _)) hgrow hown2 | exact HC1.out.appended ((grown_drew _).trans (World.grownBy_alloc _ _ _)) hgrow hown2)
    have HFr : Hid (Frm B (· = cb) w (w2.setCell ⟨cb, 1, none⟩ (.slice (some ⟨gg, 0, none⟩) (h.push m).size cap2))) := (by
      have q1 : Frm B (· = cb) w W1 := Frm.of HG1.out (by simp) hbs
      have hrow : ∀ k, (Value.slice ad h.size cap).ownBlock = some k → B ≤ k ∨ k = cb := fun k e => Or.inl (World.ownsRow.lt HC.out.own k e).1
      first
        | exact ((q1.grown ((World.grownBy_alloc W1 _ none).trans (grown_drew _)) (by simp) hB1).grown hgrow hrow (by simp; omega)).grown (grown_setCell _ _ _) (fun k e => Or.inr (by injection e with e; exact e.symm)) (by have := hgrow.size; simp at this; omega)
        | exact ((q1.grown ((grown_drew W1).trans (World.grownBy_alloc _ _ none)) (by simp) hB1).grown hgrow hrow (by simp; omega)).grown (grown_setCell _ _ _) (fun k e => Or.inr (by injection e with e; exact e.symm)) (by have := hgrow.size; simp at this; omega))
    have hps : (h.push m).size = h.size + 1 := by simp
    rw [hps] at HA HFr
    generalize (w2.setCell ⟨cb, 1, none⟩ (.slice (some ⟨gg, 0, none⟩) (h.size + 1) cap2)) = W3 at HA HFr ⊢
    clear hown2 hgrow hat hlt hfz2 hcc2 m0 m1 d1 f1 d1a
    have a1 := HA.out.c1
    go_wp2
    go_loopw [4] (fun vi wr => ∃ (i : Nat) (hj : Array Mt), vi = .int .i64 i ∧ i < hj.size ∧ hj.size = h.size + 1 ∧ hj.toList.Perm (h.toList ++ [m]) ∧ UpOk hj i ∧ Coll cb limit (.slice (some ⟨gg, 0, none⟩) (h.size + 1) cap2) hj total B wr ∧ Frm B (· = cb) w wr) (fun vi _ => (intOf vi).toNat)
    case atStart => exact ⟨h.size, h.push m, rfl, by simp, by simp, by simp, up_start HK.out.1 m, HA.out, HFr.out⟩
    case round =>
      clear HA HFr a1
      obtain ⟨i, hj, rfl, hi, hjs, hP, hU, hC, hF⟩ := hrel
      have HJ : Hid (hj.toList.Perm (h.toList ++ [m]) ∧ UpOk hj i ∧ Coll cb limit (.slice (some ⟨gg, 0, none⟩) (h.size + 1) cap2) hj total B wr ∧ Frm B (· = cb) w wr) := ⟨hP, hU, hC, hF⟩
      have HJS : Hid (hj.size = h.size + 1) := hjs
      have hi1 : i < h.size + 1 := by omega
      by_cases h0 : 0 < i
      · have h0i : (0 : Int) < (i : Int) := by omega
        obtain ⟨p, hp⟩ : ∃ p : Nat, ((i : Int) - 1) / 2 = (p : Int) := ⟨(i - 1) / 2, by omega⟩
        have HPp : Hid (p = (i - 1) / 2) := show p = (i - 1) / 2 by omega
        have hpi : p < i := by omega
        have a1 := hC.c1
        obtain ⟨g', cap', hv', hBg, hcp, hR⟩ := hC.own.row (by omega)
        obtain rfl : gg = g' := by injection hv' with q1; simpa using q1
        obtain ⟨x, hx⟩ : ∃ x, x = hj[i]! := ⟨_, rfl⟩
        obtain ⟨y, hy⟩ : ∃ y, y = hj[p]! := ⟨_, rfl⟩
        have e0 := hR.c0 i hi
        have e1 := hR.c1 i hi
        have e2 := hR.c0 p (by omega)
        have e3 := hR.c1 p (by omega)
        rw [← hx] at e0 e1
        rw [← hy] at e2 e3
        have hx2 : x.2 < 1024 := by rw [hx]; exact small_perm hP HK.out.2 hm i hi
        have hy2 : y.2 < 1024 := by rw [hy]; exact small_perm hP HK.out.2 hm p (by omega)
        have hb1 : (i : Int) < (h.size : Int) + 1 := by omega
        have hb2 : (p : Int) < (h.size : Int) + 1 := by omega
        have HX : Hid (x = hj[i]! ∧ y = hj[p]!) := ⟨hx, hy⟩
        clear hP hU hC hF hR hx hy hv' hjs hi
        have hne : ¬ gg = cb := by omega
        have hne' : ¬ cb = gg := by omega
        cases hw : worse x y with
        | true =>
          have HW : Hid (worse x y = true) := hw
          go_wp2
          go_still_tail 14, (by kernel_rfl)
          clear e0 e1 e2 e3 a1
          go_wp2_with (go_at_call 38; refine (worse_any x y _ hx2 hy2).mono ?_; rintro z w3 ⟨rfl, hg3⟩; rw [hw])
          have HC3 : Hid (Coll cb limit (.slice (some ⟨gg, 0, none⟩) (h.size + 1) cap2) hj total B w3) := HJ.out.2.2.1.kept ((grown_drew wr).trans hg3) (by simp) (by simp)
          have HF3 : Hid (Frm B (· = cb) w w3) := HJ.out.2.2.2.grown ((grown_drew wr).trans hg3) (by simp) HJ.out.2.2.1.base
          obtain ⟨g4, cap4, hv4, _, _, hR4⟩ := HC3.out.own.row (by have := HJS.out; omega)
          obtain rfl : gg = g4 := by injection hv4 with q1; simpa using q1
          have b1 := HC3.out.c1
          have e0 := hR4.c0 i (by have := HJS.out; omega)
          have e1 := hR4.c1 i (by have := HJS.out; omega)
          have e2 := hR4.c0 p (by have := HJS.out; omega)
          have e3 := hR4.c1 p (by have := HJS.out; omega)
          rw [← HX.out.1] at e0 e1
          rw [← HX.out.2] at e2 e3
          have z0 := hR4.fz (i * 2)
          have z1 := hR4.fz (i * 2 + 1)
          have z2 := hR4.fz (p * 2)
          have z3 := hR4.fz (p * 2 + 1)
          have n2 : ¬ p * 2 = i * 2 := by omega
          have n3 : ¬ p * 2 = i * 2 + 1 := by omega
          have n4 : ¬ p * 2 + 1 = i * 2 := by omega
          have n5 : ¬ p * 2 + 1 = i * 2 + 1 := by omega
          have HC4 : Hid (Coll cb limit (.slice (some ⟨gg, 0, none⟩) (h.size + 1) cap2) (swp hj i p) total B (putM (putM w3 gg i y) gg p x).drew) := (by
            have q := HC3.out
            rw [← HJS.out] at q
            have q2 := q.swap i p
            rw [HJS.out, ← HX.out.1, ← HX.out.2] at q2
            exact q2.kept (grown_drew _) (by simp) (by simp))
          have HF4 : Hid (Frm B (· = cb) w (putM (putM w3 gg i y) gg p x).drew) := HF3.out.grown (((grown_putM w3 gg i y).trans (grown_putM _ gg p x)).trans (grown_any (grown_drew _))) (fun k e => Or.inl (by injection e with e; omega)) HC3.out.base
          clear hR4 hv4 hg3
          go_region
          clear e0 e1 e2 e3 z0 z1 z2 z3 b1
          go_wp2
          go_roundw
          case rel =>
            refine ⟨p, swp hj i p, rfl, by rw [swp_size]; have := HJS.out; omega, by rw [swp_size]; exact HJS.out, (swp_perm hj i p (by have := HJS.out; omega) (by have := HJS.out; omega)).trans HJ.out.1, ?_, HC4.out, HF4.out⟩
            rw [HPp.out]
            exact HJ.out.2.1.step h0 (by have := HJS.out; omega) (by rw [← HPp.out, ← HX.out.1, ← HX.out.2]; exact HW.out)
          case measure => simp [intOf]; omega
        | false =>
          have HW : Hid (worse x y = false) := hw
          go_wp2
          go_still_tail 14, (by kernel_rfl)
          clear e0 e1 e2 e3 a1
          go_wp2_with (go_at_call 38; refine (worse_any x y _ hx2 hy2).mono ?_; rintro z w3 ⟨rfl, hg3⟩; rw [hw])
          refine bodyPost_ret (v := .tuple #[]) (by simp [results, Yba.results32, go_sem]) rfl ?_
          refine ⟨rfl, _, hj, HJ.out.2.2.1.kept ((grown_drew wr).trans hg3) (by simp) (by simp), HJ.out.1, HJ.out.2.1.stop (Or.inr (by rw [← HPp.out, ← HX.out.1, ← HX.out.2]; exact HW.out)), HJ.out.2.2.2.grown ((grown_drew wr).trans hg3) (by simp) HJ.out.2.2.1.base⟩
      · have h0i : ¬ (0 : Int) < (i : Int) := by omega
        clear hP hU hC hF
        go_wp2
        refine bodyPost_ret (v := .tuple #[]) (by simp [results, Yba.results32, go_sem]) rfl ?_
        exact ⟨rfl, _, hj, HJ.out.2.2.1, HJ.out.1, HJ.out.2.1.stop (Or.inl (by omega)), HJ.out.2.2.2⟩
end Go.Proofs.Ybulkchng
