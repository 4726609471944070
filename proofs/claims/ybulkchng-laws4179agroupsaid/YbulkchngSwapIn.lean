/-
  (*topDocs).offer, the heap full and the worst dropped for the match.
-/
import Derived.Test.YbulkchngOffer
namespace Go.Proofs.Ybulkchng
open Go.RowKit Go.Sort
attribute [local go_sem] run_store_float

theorem down_start {h : Array Mt} (hk : HeapOk h) (m : Mt) : DownOk (h.setIfInBounds 0 m) 0 := by
  refine ⟨fun i h0 hi he => ?_, fun i h0 hi he h1 => by omega⟩
  simp at hi
  have g : ∀ j, 0 < j → j < h.size → (h.setIfInBounds 0 m)[j]! = h[j]! := fun j hj hjs => by
    rw [getElem!_pos _ j (by simpa using hjs), getElem!_pos h j hjs, Array.getElem_setIfInBounds_ne _ (by omega)]
  rw [g i h0 hi, g ((i - 1) / 2) (by omega) (by omega)]
  exact hk i h0 hi

theorem small_set {h h' : Array Mt} {m : Mt} (hp : h'.toList.Perm (h.setIfInBounds 0 m).toList) (hs : ∀ t, t < h.size → h[t]!.2 < 1024) (hm : m.2 < 1024) (t : Nat) (ht : t < h'.size) : h'[t]!.2 < 1024 := by
  have hx : h'[t]! ∈ h'.toList := by rw [getElem!_pos h' t ht]; simp
  have h1 := hp.mem_iff.1 hx
  rw [Array.toList_setIfInBounds] at h1
  rcases List.mem_or_eq_of_mem_set h1 with h2 | h2
  · obtain ⟨i, hi, e⟩ := mem_get h2; rw [← e]; exact hs i hi
  · rw [h2]; exact hm

theorem worse_self (x : Mt) : worse x x = false := swoTop.irrefl x
theorem worse_trans {x y z : Mt} (h1 : worse x y = true) (h2 : worse y z = true) : worse x z = true := swoTop.trans _ _ _ h2 h1
theorem worse_ntrans2 {x y z : Mt} (h1 : worse x y = true) (h2 : worse z y = false) : worse z x = false := worse_ntrans h2 (worse_asymm h1)

set_option maxHeartbeats 6400000 in
set_option maxRecDepth 100000 in
theorem offer_swap (cb limit : Nat) (v : Value) (h : Array Mt) (total B : Nat) (m : Mt) (w : World) (c : Coll cb limit v h total B w) (hm : m.2 < 1024) (hl : ¬ h.size < limit) (hb : h.size ≤ 12) (h0 : 0 < h.size) (hk : HeapOk h) (hsm : ∀ t, t < h.size → h[t]!.2 < 1024) (hw : worse h[0]! m = true) :
    Calls Yba.prog 32 #[.pointer (some ⟨cb, 0, none⟩), ev m] w fun e w' => e = .returned (.tuple #[]) ∧ ∃ h', Coll cb limit v h' total B w' ∧ h'.toList.Perm (h.setIfInBounds 0 m).toList ∧ HeapOk h' ∧ Frm B (· = cb) w w' := by
  obtain ⟨g, cap, rfl, hg, hc, hR⟩ := c.own.row h0
  have hlti : decide ((h.size : Int) < (limit : Int)) = false := by simp; omega
  obtain ⟨x, hx⟩ : ∃ x, x = h[0]! := ⟨_, rfl⟩
  have hx2 : x.2 < 1024 := by rw [hx]; exact hsm 0 h0
  have e0 := hR.c0 0 h0
  have e1 := hR.c1 0 h0
  rw [← hx] at e0 e1 hw
  simp only [Nat.zero_mul, Nat.zero_add] at e0 e1
  have c0 := c.c0
  have c1 := c.c1
  have h0i : (0 : Int) < (h.size : Int) := by omega
  have hfar := c.far
  have hbase := c.base
  have HC : Hid (Coll cb limit (.slice (some ⟨g, 0, none⟩) h.size cap) h total B w) := c
  have HK : Hid (HeapOk h ∧ ∀ t, t < h.size → h[t]!.2 < 1024) := ⟨hk, hsm⟩
  obtain ⟨W1, hW1⟩ : ∃ W1, W1 = w.alloc (.cells #[.int .i64 m.1, .float .f64 (fl m.2)] 40) := ⟨_, rfl⟩
  have hg1 : w.grownBy W1 none := by rw [hW1]; exact World.grownBy_alloc _ _ none
  have m0 : W1.cell? ⟨w.heap.size, 0, none⟩ = some (.int .i64 m.1) := by rw [hW1, World.cell?_alloc_new]; rfl
  have m1 : W1.cell? ⟨w.heap.size, 1, none⟩ = some (.float .f64 (fl m.2)) := by rw [hW1, World.cell?_alloc_new]; rfl
  have d0 := hg1.cell c0 (by simp)
  have d1 := hg1.cell c1 (by simp)
  have f0 := hg1.cell e0 (by simp)
  have f1 := hg1.cell e1 (by simp)
  have HW1 := hW1.symm
  have HG1 : Hid (w.grownBy W1 none) := hg1
  clear c hR hx c0 c1 e0 e1 hW1 hg1 hk hsm
  unfold ev
  go_enter Yba.func32, Yba.ntmps32
  go_wp2
  go_quiet (fail)
  go_wp2
  have p1 := (grown_drewN W1 nq).cell d1 (by simp)
  have p2 := (grown_drewN W1 nq).cell f0 (by simp)
  have p3 := (grown_drewN W1 nq).cell f1 (by simp)
  have p4 := (grown_drewN W1 nq).cell m0 (by simp)
  have p5 := (grown_drewN W1 nq).cell m1 (by simp)
  have HG2 : Hid (w.grownBy (W1.drewN nq) none) := HG1.out.trans (grown_drewN _ _)
  clear d0 d1 f0 f1 m0 m1 HG1
  generalize W1.drewN nq = W2 at p1 p2 p3 p4 p5 HG2 ⊢
  go_still_tail 7, (by kernel_rfl)
  go_wp2_with (go_at_call 38; refine (worse_any x m _ hx2 hm).mono ?_; rintro z w3 ⟨rfl, hg3⟩; rw [hw])
  have hg3' : W2.grownBy w3 none := (grown_drew _).trans hg3
  have q1 := hg3'.cell p1 (by simp)
  have q2 := hg3'.cell p2 (by simp)
  have q3 := hg3'.cell p3 (by simp)
  have q4 := hg3'.cell p4 (by simp)
  have q5 := hg3'.cell p5 (by simp)
  have HC3 : Hid (Coll cb limit (.slice (some ⟨g, 0, none⟩) h.size cap) h total B w3) := HC.out.kept (HG2.out.trans hg3') (by simp) (by simp)
  have HF3 : Hid (Frm B (· = cb) w w3) := Frm.of (HG2.out.trans hg3') (by simp) hbase
  obtain ⟨g4, cap4, hv4, _, _, hR4⟩ := HC3.out.own.row h0
  obtain rfl : g = g4 := by injection hv4 with u1; simpa using u1
  have z0 := hR4.fz 0
  have z1 := hR4.fz 1
  have hne : ¬ g = cb := by omega
  have hne' : ¬ cb = g := by omega
  clear p1 p2 p3 p4 p5 hg3 hg3' hR4 hv4
  go_region
  have HA : Hid (Coll cb limit (.slice (some ⟨g, 0, none⟩) h.size cap) (h.setIfInBounds 0 m) total B (putM w3 g 0 m).drew) := (HC3.out.put 0 m).kept (grown_drew _) (by simp) (by simp)
  have HFr : Hid (Frm B (· = cb) w (putM w3 g 0 m).drew) := HF3.out.grown ((grown_putM w3 g 0 m).trans (grown_any (grown_drew _))) (fun k e => Or.inl (by injection e with e; omega)) HC3.out.base
  clear q1 q2 q3 q4 q5 z0 z1 HC3 HF3 HC
  go_wp2
  go_loopw [6] (fun vi wr => ∃ (i : Nat) (hj : Array Mt), vi = .int .i64 i ∧ i < h.size ∧ hj.size = h.size ∧ hj.toList.Perm (h.setIfInBounds 0 m).toList ∧ DownOk hj i ∧ Coll cb limit (.slice (some ⟨g, 0, none⟩) h.size cap) hj total B wr ∧ Frm B (· = cb) w wr) (fun vi _ => h.size - (intOf vi).toNat)
  case atStart => exact ⟨0, h.setIfInBounds 0 m, rfl, h0, by simp, List.Perm.refl _, down_start HK.out.1 m, HA.out, HFr.out⟩
  case round =>
    clear HA HFr
    obtain ⟨i, hj, rfl, hi, hjs, hP, hD, hC, hF⟩ := hrel
    have HJ : Hid (hj.size = h.size ∧ hj.toList.Perm (h.setIfInBounds 0 m).toList ∧ DownOk hj i ∧ Coll cb limit (.slice (some ⟨g, 0, none⟩) h.size cap) hj total B wr ∧ Frm B (· = cb) w wr) := ⟨hjs, hP, hD, hC, hF⟩
    have a1 := hC.c1
    obtain ⟨l, hlE⟩ : ∃ l : Nat, 2 * (i : Int) + 1 = (l : Int) := ⟨2 * i + 1, by omega⟩
    obtain ⟨r, hrE⟩ : ∃ r : Nat, 2 * (i : Int) + 2 = (r : Int) := ⟨2 * i + 2, by omega⟩
    have HLE : Hid (l = 2 * i + 1 ∧ r = 2 * i + 2) := ⟨by omega, by omega⟩
    by_cases hl1 : l < h.size
    · have hd1 : decide ((l : Int) < (h.size : Int)) = true := by simp; omega
      have hdl : (l : Int) < (h.size : Int) := by omega
      have hdi : (i : Int) < (h.size : Int) := by omega
      obtain ⟨g', cap', hv', _, _, hR⟩ := hC.own.row (by omega)
      obtain rfl : g = g' := by injection hv' with u1; simpa using u1
      obtain ⟨x, hx⟩ : ∃ x, x = hj[i]! := ⟨_, rfl⟩
      obtain ⟨y, hy⟩ : ∃ y, y = hj[l]! := ⟨_, rfl⟩
      obtain ⟨u, hu⟩ : ∃ u, u = hj[r]! := ⟨_, rfl⟩
      have e0 := hR.c0 i (by omega)
      have e1 := hR.c1 i (by omega)
      have e2 := hR.c0 l (by omega)
      have e3 := hR.c1 l (by omega)
      rw [← hx] at e0 e1
      rw [← hy] at e2 e3
      have HI0 : Hid (wr.cell? ⟨g, i * 2, none⟩ = some (.int .i64 x.1) ∧ wr.cell? ⟨g, i * 2 + 1, none⟩ = some (.float .f64 (fl x.2))) := ⟨e0, e1⟩
      have HL0 : Hid (wr.cell? ⟨g, l * 2, none⟩ = some (.int .i64 y.1) ∧ wr.cell? ⟨g, l * 2 + 1, none⟩ = some (.float .f64 (fl y.2))) := ⟨e2, e3⟩
      have sm : ∀ t, t < hj.size → hj[t]!.2 < 1024 := fun t ht => small_set hP HK.out.2 hm t ht
      have hx2' : x.2 < 1024 := by rw [hx]; exact sm i (by omega)
      have hy2 : y.2 < 1024 := by rw [hy]; exact sm l (by omega)
      have HX : Hid (x = hj[i]! ∧ y = hj[l]! ∧ u = hj[r]!) := ⟨hx, hy, hu⟩
      by_cases hr1 : r < h.size
      · have hd2 : decide ((r : Int) < (h.size : Int)) = true := by simp; omega
        have hdr : (r : Int) < (h.size : Int) := by omega
        have hu2 : u.2 < 1024 := by rw [hu]; exact sm r (by omega)
        have HR0 : Hid (wr.cell? ⟨g, r * 2, none⟩ = some (.int .i64 u.1) ∧ wr.cell? ⟨g, r * 2 + 1, none⟩ = some (.float .f64 (fl u.2))) := (by
          have v0 := hR.c0 r (by omega)
          have v1 := hR.c1 r (by omega)
          rw [← hu] at v0 v1
          exact ⟨v0, v1⟩)
        clear hP hD hC hF hR hx hy hu hv' hjs sm
        cases hbl : worse y x with
        | true =>
          have HBL : Hid (worse y x = true) := hbl
          cases hbr : worse u y with
          | true =>
            have HBR : Hid (worse u y = true) := hbr
            go_wp2
            go_still_tail 22, (by kernel_rfl)
            clear a1 e0 e1 e2 e3
            go_wp2_with (go_at_call 38; refine (worse_any y x _ hy2 hx2').mono ?_; rintro z w4 ⟨rfl, hg4⟩; rw [hbl])
            have HG4 : Hid (wr.grownBy w4 none) := (grown_drew _).trans hg4
            have b1 := HG4.out.cell HJ.out.2.2.2.1.c1 (by simp)
            have r0 := HG4.out.cell HR0.out.1 (by simp)
            have r1 := HG4.out.cell HR0.out.2 (by simp)
            have t0 := HG4.out.cell HL0.out.1 (by simp)
            have t1 := HG4.out.cell HL0.out.2 (by simp)
            clear hg4
            go_still_tail 22, (by kernel_rfl)
            clear b1 r0 r1 t0 t1
            go_wp2_with (go_at_call 38; refine (worse_any u y _ hu2 hy2).mono ?_; rintro z w5 ⟨rfl, hg5⟩; rw [hbr])
            have HG5 : Hid (wr.grownBy w5 none) := HG4.out.trans ((grown_drew _).trans hg5)
            clear hg5
            obtain ⟨w6, rfl⟩ : ∃ w6 : World, w6 = w5 := ⟨_, rfl⟩
            have HC6 : Hid (Coll cb limit (.slice (some ⟨g, 0, none⟩) h.size cap) hj total B w6) := HJ.out.2.2.2.1.kept HG5.out (by simp) (by simp)
            have HF6 : Hid (Frm B (· = cb) w w6) := HJ.out.2.2.2.2.grown HG5.out (by simp) HJ.out.2.2.2.1.base
            obtain ⟨g4, cap4, hv4, _, _, hR4⟩ := HC6.out.own.row (by have := HJ.out.1; omega)
            obtain rfl : g = g4 := by injection hv4 with u1; simpa using u1
            have hsi : ((r : Int) == (i : Int)) = false := by simp; omega
            have b1 := HC6.out.c1
            have e0 := hR4.c0 i (by have := HJ.out.1; omega)
            have e1 := hR4.c1 i (by have := HJ.out.1; omega)
            have e2 := hR4.c0 r (by have := HJ.out.1; omega)
            have e3 := hR4.c1 r (by have := HJ.out.1; omega)
            rw [← HX.out.1] at e0 e1
            rw [← HX.out.2.2] at e2 e3
            have z0 := hR4.fz (i * 2)
            have z1 := hR4.fz (i * 2 + 1)
            have z2 := hR4.fz (r * 2)
            have z3 := hR4.fz (r * 2 + 1)
            have n2 : ¬ r * 2 = i * 2 := by omega
            have n3 : ¬ r * 2 = i * 2 + 1 := by omega
            have n4 : ¬ r * 2 + 1 = i * 2 := by omega
            have n5 : ¬ r * 2 + 1 = i * 2 + 1 := by omega
            have HC7 : Hid (Coll cb limit (.slice (some ⟨g, 0, none⟩) h.size cap) (swp hj i r) total B (putM (putM w6 g i u) g r x).drew) := (by
              have q := HC6.out
              rw [← HJ.out.1] at q
              have q2 := q.swap i r
              rw [HJ.out.1, ← HX.out.1, ← HX.out.2.2] at q2
              exact q2.kept (grown_drew _) (by simp) (by simp))
            have HF7 : Hid (Frm B (· = cb) w (putM (putM w6 g i u) g r x).drew) := HF6.out.grown (((grown_putM w6 g i u).trans (grown_putM _ g r x)).trans (grown_any (grown_drew _))) (fun k e => Or.inl (by injection e with e; omega)) HC6.out.base
            clear hR4 hv4
            go_wp2
            go_region
            clear e0 e1 e2 e3 z0 z1 z2 z3 b1
            go_wp2
            go_roundw
            case rel =>
              have hsz := HJ.out.1
              refine ⟨r, swp hj i r, rfl, by omega, by rw [swp_size]; exact hsz, (swp_perm hj i r (by omega) (by omega)).trans HJ.out.2.1, ?_, HC7.out, HF7.out⟩
              refine HJ.out.2.2.1.step (by omega) (by omega) (by omega) (by rw [← HX.out.1, ← HX.out.2.2]; exact (worse_trans HBR.out HBL.out)) (fun j q1 q2 q3 => ?_)
              have hj2 : j = l ∨ j = r := by omega
              rcases hj2 with rfl | rfl
              · rw [← HX.out.2.1, ← HX.out.2.2]; exact worse_asymm HBR.out
              · exact worse_self _
            case measure => simp [intOf]; omega
          | false =>
            have HBR : Hid (worse u y = false) := hbr
            go_wp2
            go_still_tail 22, (by kernel_rfl)
            clear a1 e0 e1 e2 e3
            go_wp2_with (go_at_call 38; refine (worse_any y x _ hy2 hx2').mono ?_; rintro z w4 ⟨rfl, hg4⟩; rw [hbl])
            have HG4 : Hid (wr.grownBy w4 none) := (grown_drew _).trans hg4
            have b1 := HG4.out.cell HJ.out.2.2.2.1.c1 (by simp)
            have r0 := HG4.out.cell HR0.out.1 (by simp)
            have r1 := HG4.out.cell HR0.out.2 (by simp)
            have t0 := HG4.out.cell HL0.out.1 (by simp)
            have t1 := HG4.out.cell HL0.out.2 (by simp)
            clear hg4
            go_still_tail 22, (by kernel_rfl)
            clear b1 r0 r1 t0 t1
            go_wp2_with (go_at_call 38; refine (worse_any u y _ hu2 hy2).mono ?_; rintro z w5 ⟨rfl, hg5⟩; rw [hbr])
            have HG5 : Hid (wr.grownBy w5 none) := HG4.out.trans ((grown_drew _).trans hg5)
            clear hg5
            obtain ⟨w6, rfl⟩ : ∃ w6 : World, w6 = w5 := ⟨_, rfl⟩
            have HC6 : Hid (Coll cb limit (.slice (some ⟨g, 0, none⟩) h.size cap) hj total B w6) := HJ.out.2.2.2.1.kept HG5.out (by simp) (by simp)
            have HF6 : Hid (Frm B (· = cb) w w6) := HJ.out.2.2.2.2.grown HG5.out (by simp) HJ.out.2.2.2.1.base
            obtain ⟨g4, cap4, hv4, _, _, hR4⟩ := HC6.out.own.row (by have := HJ.out.1; omega)
            obtain rfl : g = g4 := by injection hv4 with u1; simpa using u1
            have hsi : ((l : Int) == (i : Int)) = false := by simp; omega
            have b1 := HC6.out.c1
            have e0 := hR4.c0 i (by have := HJ.out.1; omega)
            have e1 := hR4.c1 i (by have := HJ.out.1; omega)
            have e2 := hR4.c0 l (by have := HJ.out.1; omega)
            have e3 := hR4.c1 l (by have := HJ.out.1; omega)
            rw [← HX.out.1] at e0 e1
            rw [← HX.out.2.1] at e2 e3
            have z0 := hR4.fz (i * 2)
            have z1 := hR4.fz (i * 2 + 1)
            have z2 := hR4.fz (l * 2)
            have z3 := hR4.fz (l * 2 + 1)
            have n2 : ¬ l * 2 = i * 2 := by omega
            have n3 : ¬ l * 2 = i * 2 + 1 := by omega
            have n4 : ¬ l * 2 + 1 = i * 2 := by omega
            have n5 : ¬ l * 2 + 1 = i * 2 + 1 := by omega
            have HC7 : Hid (Coll cb limit (.slice (some ⟨g, 0, none⟩) h.size cap) (swp hj i l) total B (putM (putM w6 g i y) g l x).drew) := (by
              have q := HC6.out
              rw [← HJ.out.1] at q
              have q2 := q.swap i l
              rw [HJ.out.1, ← HX.out.1, ← HX.out.2.1] at q2
              exact q2.kept (grown_drew _) (by simp) (by simp))
            have HF7 : Hid (Frm B (· = cb) w (putM (putM w6 g i y) g l x).drew) := HF6.out.grown (((grown_putM w6 g i y).trans (grown_putM _ g l x)).trans (grown_any (grown_drew _))) (fun k e => Or.inl (by injection e with e; omega)) HC6.out.base
            clear hR4 hv4
            go_wp2
            go_region
            clear e0 e1 e2 e3 z0 z1 z2 z3 b1
            go_wp2
            go_roundw
            case rel =>
              have hsz := HJ.out.1
              refine ⟨l, swp hj i l, rfl, by omega, by rw [swp_size]; exact hsz, (swp_perm hj i l (by omega) (by omega)).trans HJ.out.2.1, ?_, HC7.out, HF7.out⟩
              refine HJ.out.2.2.1.step (by omega) (by omega) (by omega) (by rw [← HX.out.1, ← HX.out.2.1]; exact HBL.out) (fun j q1 q2 q3 => ?_)
              have hj2 : j = l ∨ j = r := by omega
              rcases hj2 with rfl | rfl
              · exact worse_self _
              · rw [← HX.out.2.2, ← HX.out.2.1]; exact HBR.out
            case measure => simp [intOf]; omega
        | false =>
          have HBL : Hid (worse y x = false) := hbl
          cases hbr : worse u x with
          | true =>
            have HBR : Hid (worse u x = true) := hbr
            go_wp2
            go_still_tail 22, (by kernel_rfl)
            clear a1 e0 e1 e2 e3
            go_wp2_with (go_at_call 38; refine (worse_any y x _ hy2 hx2').mono ?_; rintro z w4 ⟨rfl, hg4⟩; rw [hbl])
            have HG4 : Hid (wr.grownBy w4 none) := (grown_drew _).trans hg4
            have b1 := HG4.out.cell HJ.out.2.2.2.1.c1 (by simp)
            have r0 := HG4.out.cell HR0.out.1 (by simp)
            have r1 := HG4.out.cell HR0.out.2 (by simp)
            have t0 := HG4.out.cell HI0.out.1 (by simp)
            have t1 := HG4.out.cell HI0.out.2 (by simp)
            clear hg4
            go_still_tail 22, (by kernel_rfl)
            clear b1 r0 r1 t0 t1
            go_wp2_with (go_at_call 38; refine (worse_any u x _ hu2 hx2').mono ?_; rintro z w5 ⟨rfl, hg5⟩; rw [hbr])
            have HG5 : Hid (wr.grownBy w5 none) := HG4.out.trans ((grown_drew _).trans hg5)
            clear hg5
            obtain ⟨w6, rfl⟩ : ∃ w6 : World, w6 = w5 := ⟨_, rfl⟩
            have HC6 : Hid (Coll cb limit (.slice (some ⟨g, 0, none⟩) h.size cap) hj total B w6) := HJ.out.2.2.2.1.kept HG5.out (by simp) (by simp)
            have HF6 : Hid (Frm B (· = cb) w w6) := HJ.out.2.2.2.2.grown HG5.out (by simp) HJ.out.2.2.2.1.base
            obtain ⟨g4, cap4, hv4, _, _, hR4⟩ := HC6.out.own.row (by have := HJ.out.1; omega)
            obtain rfl : g = g4 := by injection hv4 with u1; simpa using u1
            have hsi : ((r : Int) == (i : Int)) = false := by simp; omega
            have b1 := HC6.out.c1
            have e0 := hR4.c0 i (by have := HJ.out.1; omega)
            have e1 := hR4.c1 i (by have := HJ.out.1; omega)
            have e2 := hR4.c0 r (by have := HJ.out.1; omega)
            have e3 := hR4.c1 r (by have := HJ.out.1; omega)
            rw [← HX.out.1] at e0 e1
            rw [← HX.out.2.2] at e2 e3
            have z0 := hR4.fz (i * 2)
            have z1 := hR4.fz (i * 2 + 1)
            have z2 := hR4.fz (r * 2)
            have z3 := hR4.fz (r * 2 + 1)
            have n2 : ¬ r * 2 = i * 2 := by omega
            have n3 : ¬ r * 2 = i * 2 + 1 := by omega
            have n4 : ¬ r * 2 + 1 = i * 2 := by omega
            have n5 : ¬ r * 2 + 1 = i * 2 + 1 := by omega
            have HC7 : Hid (Coll cb limit (.slice (some ⟨g, 0, none⟩) h.size cap) (swp hj i r) total B (putM (putM w6 g i u) g r x).drew) := (by
              have q := HC6.out
              rw [← HJ.out.1] at q
              have q2 := q.swap i r
              rw [HJ.out.1, ← HX.out.1, ← HX.out.2.2] at q2
              exact q2.kept (grown_drew _) (by simp) (by simp))
            have HF7 : Hid (Frm B (· = cb) w (putM (putM w6 g i u) g r x).drew) := HF6.out.grown (((grown_putM w6 g i u).trans (grown_putM _ g r x)).trans (grown_any (grown_drew _))) (fun k e => Or.inl (by injection e with e; omega)) HC6.out.base
            clear hR4 hv4
            go_wp2
            go_region
            clear e0 e1 e2 e3 z0 z1 z2 z3 b1
            go_wp2
            go_roundw
            case rel =>
              have hsz := HJ.out.1
              refine ⟨r, swp hj i r, rfl, by omega, by rw [swp_size]; exact hsz, (swp_perm hj i r (by omega) (by omega)).trans HJ.out.2.1, ?_, HC7.out, HF7.out⟩
              refine HJ.out.2.2.1.step (by omega) (by omega) (by omega) (by rw [← HX.out.1, ← HX.out.2.2]; exact HBR.out) (fun j q1 q2 q3 => ?_)
              have hj2 : j = l ∨ j = r := by omega
              rcases hj2 with rfl | rfl
              · rw [← HX.out.2.1, ← HX.out.2.2]; exact worse_ntrans2 HBR.out HBL.out
              · exact worse_self _
            case measure => simp [intOf]; omega
          | false =>
            have HBR : Hid (worse u x = false) := hbr
            go_wp2
            go_still_tail 22, (by kernel_rfl)
            clear a1 e0 e1 e2 e3
            go_wp2_with (go_at_call 38; refine (worse_any y x _ hy2 hx2').mono ?_; rintro z w4 ⟨rfl, hg4⟩; rw [hbl])
            have HG4 : Hid (wr.grownBy w4 none) := (grown_drew _).trans hg4
            have b1 := HG4.out.cell HJ.out.2.2.2.1.c1 (by simp)
            have r0 := HG4.out.cell HR0.out.1 (by simp)
            have r1 := HG4.out.cell HR0.out.2 (by simp)
            have t0 := HG4.out.cell HI0.out.1 (by simp)
            have t1 := HG4.out.cell HI0.out.2 (by simp)
            clear hg4
            go_still_tail 22, (by kernel_rfl)
            clear b1 r0 r1 t0 t1
            go_wp2_with (go_at_call 38; refine (worse_any u x _ hu2 hx2').mono ?_; rintro z w5 ⟨rfl, hg5⟩; rw [hbr])
            have HG5 : Hid (wr.grownBy w5 none) := HG4.out.trans ((grown_drew _).trans hg5)
            clear hg5
            go_wp2
            refine bodyPost_ret (v := .tuple #[]) (by simp [results, Yba.results32, go_sem]) rfl ?_
            refine ⟨rfl, hj, HJ.out.2.2.2.1.kept HG5.out (by simp) (by simp), HJ.out.2.1, HJ.out.2.2.1.stop (fun j q1 q2 q3 => ?_), HJ.out.2.2.2.2.grown HG5.out (by simp) HJ.out.2.2.2.1.base⟩
            have hsz := HJ.out.1
            have hj2 : j = l ∨ j = r := by omega
            rcases hj2 with rfl | rfl
            · rw [← HX.out.1, ← HX.out.2.1]; exact HBL.out
            · rw [← HX.out.1, ← HX.out.2.2]; exact HBR.out
      · have hd2 : decide ((r : Int) < (h.size : Int)) = false := by simp; omega
        clear hP hD hC hF hR hx hy hu hv' hjs sm
        cases hbl : worse y x with
        | true =>
          have HBL : Hid (worse y x = true) := hbl
          go_wp2
          go_still_tail 22, (by kernel_rfl)
          clear a1 e0 e1 e2 e3
          go_wp2_with (go_at_call 38; refine (worse_any y x _ hy2 hx2').mono ?_; rintro z w4 ⟨rfl, hg4⟩; rw [hbl])
          have HG4 : Hid (wr.grownBy w4 none) := (grown_drew _).trans hg4
          have b1 := HG4.out.cell HJ.out.2.2.2.1.c1 (by simp)
          clear hg4
          go_quiet (fail)
          have HG5 : Hid (wr.grownBy (w4.drewN nq) none) := HG4.out.trans (grown_drewN _ _)
          clear b1
          generalize w4.drewN nq = w6 at HG5 ⊢
          have HC6 : Hid (Coll cb limit (.slice (some ⟨g, 0, none⟩) h.size cap) hj total B w6) := HJ.out.2.2.2.1.kept HG5.out (by simp) (by simp)
          have HF6 : Hid (Frm B (· = cb) w w6) := HJ.out.2.2.2.2.grown HG5.out (by simp) HJ.out.2.2.2.1.base
          obtain ⟨g4, cap4, hv4, _, _, hR4⟩ := HC6.out.own.row (by have := HJ.out.1; omega)
          obtain rfl : g = g4 := by injection hv4 with u1; simpa using u1
          have hsi : ((l : Int) == (i : Int)) = false := by simp; omega
          have b1 := HC6.out.c1
          have e0 := hR4.c0 i (by have := HJ.out.1; omega)
          have e1 := hR4.c1 i (by have := HJ.out.1; omega)
          have e2 := hR4.c0 l (by have := HJ.out.1; omega)
          have e3 := hR4.c1 l (by have := HJ.out.1; omega)
          rw [← HX.out.1] at e0 e1
          rw [← HX.out.2.1] at e2 e3
          have z0 := hR4.fz (i * 2)
          have z1 := hR4.fz (i * 2 + 1)
          have z2 := hR4.fz (l * 2)
          have z3 := hR4.fz (l * 2 + 1)
          have n2 : ¬ l * 2 = i * 2 := by omega
          have n3 : ¬ l * 2 = i * 2 + 1 := by omega
          have n4 : ¬ l * 2 + 1 = i * 2 := by omega
          have n5 : ¬ l * 2 + 1 = i * 2 + 1 := by omega
          have HC7 : Hid (Coll cb limit (.slice (some ⟨g, 0, none⟩) h.size cap) (swp hj i l) total B (putM (putM w6 g i y) g l x).drew) := (by
            have q := HC6.out
            rw [← HJ.out.1] at q
            have q2 := q.swap i l
            rw [HJ.out.1, ← HX.out.1, ← HX.out.2.1] at q2
            exact q2.kept (grown_drew _) (by simp) (by simp))
          have HF7 : Hid (Frm B (· = cb) w (putM (putM w6 g i y) g l x).drew) := HF6.out.grown (((grown_putM w6 g i y).trans (grown_putM _ g l x)).trans (grown_any (grown_drew _))) (fun k e => Or.inl (by injection e with e; omega)) HC6.out.base
          clear hR4 hv4
          go_wp2
          go_region
          clear e0 e1 e2 e3 z0 z1 z2 z3 b1
          go_wp2
          go_roundw
          case rel =>
            have hsz := HJ.out.1
            refine ⟨l, swp hj i l, rfl, by omega, by rw [swp_size]; exact hsz, (swp_perm hj i l (by omega) (by omega)).trans HJ.out.2.1, ?_, HC7.out, HF7.out⟩
            refine HJ.out.2.2.1.step (by omega) (by omega) (by omega) (by rw [← HX.out.1, ← HX.out.2.1]; exact HBL.out) (fun j q1 q2 q3 => ?_)
            obtain rfl : j = l := by omega
            exact worse_self _
          case measure => simp [intOf]; omega
        | false =>
          have HBL : Hid (worse y x = false) := hbl
          go_wp2
          go_still_tail 22, (by kernel_rfl)
          clear a1 e0 e1 e2 e3
          go_wp2_with (go_at_call 38; refine (worse_any y x _ hy2 hx2').mono ?_; rintro z w4 ⟨rfl, hg4⟩; rw [hbl])
          have HG4 : Hid (wr.grownBy w4 none) := (grown_drew _).trans hg4
          have b1 := HG4.out.cell HJ.out.2.2.2.1.c1 (by simp)
          clear hg4
          go_quiet (fail)
          have HG5 : Hid (wr.grownBy (w4.drewN nq) none) := HG4.out.trans (grown_drewN _ _)
          clear b1
          go_wp2
          refine bodyPost_ret (v := .tuple #[]) (by simp [results, Yba.results32, go_sem]) rfl ?_
          refine ⟨rfl, hj, HJ.out.2.2.2.1.kept HG5.out (by simp) (by simp), HJ.out.2.1, HJ.out.2.2.1.stop (fun j q1 q2 q3 => ?_), HJ.out.2.2.2.2.grown HG5.out (by simp) HJ.out.2.2.2.1.base⟩
          have hsz := HJ.out.1
          obtain rfl : j = l := by omega
          rw [← HX.out.1, ← HX.out.2.1]; exact HBL.out
    · have hd1 : decide ((l : Int) < (h.size : Int)) = false := by simp; omega
      have hd2 : decide ((r : Int) < (h.size : Int)) = false := by simp; omega
      have hr1 : ¬ r < h.size := by omega
      clear hP hD hC hF hjs
      go_wp2
      go_quiet (fail)
      have b1 := (grown_drewN wr nq).cell a1 (by simp)
      have HG4 : Hid (wr.grownBy (wr.drewN nq) none) := grown_drewN _ _
      clear a1
      generalize wr.drewN nq = w4 at b1 HG4 ⊢
      go_wp2
      go_quiet (fail)
      have HG5 : Hid (wr.grownBy (w4.drewN nq) none) := HG4.out.trans (grown_drewN _ _)
      clear b1
      generalize w4.drewN nq = w5 at HG5 ⊢
      go_wp2
      refine bodyPost_ret (v := .tuple #[]) (by simp [results, Yba.results32, go_sem]) rfl ?_
      refine ⟨rfl, hj, HJ.out.2.2.2.1.kept HG5.out (by simp) (by simp), HJ.out.2.1, HJ.out.2.2.1.stop (fun j q1 q2 q3 => by have := HJ.out.1; omega), HJ.out.2.2.2.2.grown HG5.out (by simp) HJ.out.2.2.2.1.base⟩
end Go.Proofs.Ybulkchng
