/-
  zzs4179abuild: documents in order, each once, with a score.
-/
import Derived.Test.YbulkchngStable
import Derived.Test.YbulkchngOffer
namespace Go.Proofs.Ybulkchng
open Go.RowKit Go.Sort
attribute [local go_sem] run_store_float

/-- The drawn hits. -/
structure Hits (ad : Option Addr) (b o k : Nat) (P Q : Nat → Nat) (w : World) : Prop where
  ad : 0 < k → ad = some ⟨b, o, none⟩
  c0 : ∀ i, i < k → w.cell? ⟨b, o + i * 2, none⟩ = some (.int .u16 (P i))
  c1 : ∀ i, i < k → w.cell? ⟨b, o + i * 2 + 1, none⟩ = some (.int .u8 (Q i))
  p : ∀ i, P i < 65536
  q : ∀ i, Q i < 256

theorem grown_own {w w1 w2 : World} {g : Nat} (h1 : w.grownBy w1 none) (h2 : w1.grownBy w2 (some g)) (hg : w.heap.size ≤ g) : w.grownBy w2 none :=
  ⟨h2.os.trans h1.os, h2.tape.trans h1.tape, h2.output.trans h1.output, Nat.le_trans h1.size h2.size, fun k hk _ => (h2.block k (Nat.lt_of_lt_of_le hk h1.size) (by simp; omega)).trans (h1.block k hk (by simp))⟩

theorem info3 : (Yba.prog.info? 3).map (fun i => (i.size, i.bytes, i.zero.map (fun z => z.cells.size))) = some (1, 8, some 1) := by kernel_rfl
theorem info_parts3 : ∃ i z, Yba.prog.info? 3 = some i ∧ i.zero = some z ∧ i.size = 1 ∧ i.bytes = 8 ∧ z.cells.size = 1 := by
  obtain ⟨i, hi, h⟩ := Option.map_eq_some_iff.1 info3
  simp only [Prod.mk.injEq] at h
  obtain ⟨z, hz, hzs⟩ := Option.map_eq_some_iff.1 h.2.2
  exact ⟨i, z, hi, hz, h.1, h.2.1, hzs⟩
theorem info35 : (Yba.prog.info? 35).map (fun i => (i.size, i.bytes, i.zero.map (fun z => z.cells.size))) = some (1, 8, some 1) := by kernel_rfl
theorem info_parts35 : ∃ i z, Yba.prog.info? 35 = some i ∧ i.zero = some z ∧ i.size = 1 ∧ i.bytes = 8 ∧ z.cells.size = 1 := by
  obtain ⟨i, hi, h⟩ := Option.map_eq_some_iff.1 info35
  simp only [Prod.mk.injEq] at h
  obtain ⟨z, hz, hzs⟩ := Option.map_eq_some_iff.1 h.2.2
  exact ⟨i, z, hi, hz, h.1, h.2.1, hzs⟩

theorem perm_all {p : Mt → Prop} {n : Nat} {d d' : Array Mt} (h : PermIn 0 n d d') (hd : d.size = n) (hp : ∀ t, t < n → p d[t]!) : ∀ t, t < n → p d'[t]! := fun t ht => by
  have hs := h.1
  have e1 : d'.extract 0 n = d' := by rw [← hd, ← hs]; simp
  have e2 : d.extract 0 n = d := by rw [← hd]; simp
  have hq := h.2.2
  rw [e1, e2] at hq
  have hx : d'[t]! ∈ d'.toList := by rw [getElem!_pos d' t (by omega)]; simp
  obtain ⟨i, hi, e⟩ := mem_get (hq.mem_iff.1 hx)
  rw [← e]; exact hp i (by omega)

theorem cell_one_new (W : World) (x : Value) (t : TypeId) : ∀ j u, [x][j]? = some u → (W.alloc (.cells #[x] t)).cell? ((⟨W.heap.size, 0, none⟩ : Addr).add j) = some u := fun j u h => by
  refine World.news_of_block (cs := #[x]) (t := t) (fr := (0, 0)) (heap_alloc_new W _) j u h

theorem OwnM.rowS {B g n cap : Nat} {h : Array Mt} {w : World} (o : OwnM B (.slice (some ⟨g, 0, none⟩) n cap) h w) : B ≤ g ∧ RowM g h w := by
  rcases o.2 with ⟨h1, _⟩ | ⟨g', cap', cur, hv, hb, hg, hn, _, hs, ht⟩
  · cases h1
  · have key : ∀ j u, (flat h.toList)[j]? = some u → w.cell? ⟨g', j, none⟩ = some u := fun j u hu => by
      rw [cell_of_row _ _ j _ 40 (0, 0) hg]
      rw [← ht, List.getElem?_take] at hu
      split at hu
      · simpa using hu
      · cases hu
    obtain rfl : g = g' := by injection hv with q1; simpa using q1
    refine ⟨hb, fun t h1 => key _ _ (flat_get0 _ _ _ (get_opt h t h1)), fun t h1 => key _ _ (flat_get1 _ _ _ (get_opt h t h1)), fun i => frozen_of_row _ _ i _ 40 hg, ?_⟩
    exact (Array.getElem?_eq_some_iff.1 hg).1

/-- What build leaves. -/
structure Built (B : Nat) (vd vs : Value) (l : List (Nat × Nat)) (n : Nat) (w : World) : Prop where
  d : w.ownsRow B 3 1 vd l.length (l.map fun x => .int .i64 (x.1 : Int))
  s : w.ownsRow B 35 1 vs l.length (l.map fun x => .float .f64 (fl x.2))
  ne : ∀ g, vd.ownBlock = some g → vs.ownBlock ≠ some g
  up : l.Pairwise (fun x y => x.1 < y.1)
  lt : ∀ x ∈ l, x.1 < n
  sc : ∀ x ∈ l, 1 ≤ x.2 ∧ x.2 ≤ 256
  len : l.length ≤ 1024

theorem Built.kept {B : Nat} {vd vs : Value} {l : List (Nat × Nat)} {n : Nat} {w w' : World} (h : Built B vd vs l n w) (hg : w.grownBy w' none) : Built B vd vs l n w' :=
  ⟨World.ownsRow.kept h.d hg (Classical.em _), World.ownsRow.kept h.s hg (Classical.em _), h.ne, h.up, h.lt, h.sc, h.len⟩

theorem Built.low {B B' : Nat} {vd vs : Value} {l : List (Nat × Nat)} {n : Nat} {w : World} (h : Built B vd vs l n w) (hb : B' ≤ B) : Built B' vd vs l n w := by
  refine ⟨⟨h.d.1, ?_⟩, ⟨h.s.1, ?_⟩, h.ne, h.up, h.lt, h.sc, h.len⟩
  · rcases h.d.2 with e | ⟨g, cap, cur, e, q, r⟩
    · exact Or.inl e
    · exact Or.inr ⟨g, cap, cur, e, by omega, r⟩
  · rcases h.s.2 with e | ⟨g, cap, cur, e, q, r⟩
    · exact Or.inl e
    · exact Or.inr ⟨g, cap, cur, e, by omega, r⟩

theorem Built.sKept {B : Nat} {vd vs : Value} {l : List (Nat × Nat)} {n : Nat} {w Wa w5 : World} (h : Built B vd vs l n w) (hg : w.grownBy Wa none) (hg5 : Wa.grownBy w5 vd.ownBlock) : w5.ownsRow B 35 1 vs l.length (l.map fun x => .float .f64 (fl x.2)) := by
  refine World.ownsRow.kept (h.kept hg).s hg5 ?_
  by_cases e : vs.ownBlock = none
  · exact Or.inl e
  · refine Or.inr fun e' => ?_
    obtain ⟨k, hk⟩ := Option.ne_none_iff_exists'.1 e
    exact h.ne k (by rw [← e', hk]) hk

theorem grown_rows {w wa wb : World} {row : Option Nat} (h1 : w.grownBy wa none) (h2 : wa.grownBy wb row) (h : ∀ k, row = some k → w.heap.size ≤ k) : w.grownBy wb none :=
  ⟨h2.os.trans h1.os, h2.tape.trans h1.tape, h2.output.trans h1.output, Nat.le_trans h1.size h2.size, fun k hk _ => (h2.block k (Nat.lt_of_lt_of_le hk h1.size) (fun e => by have := h k e.symm; omega)).trans (h1.block k hk (by simp))⟩

theorem Built.push {B : Nat} {vd vs : Value} {l : List (Nat × Nat)} {n : Nat} {w w5 Wb w6 : World} (h : Built B vd vs l n w) {g5 c5 H5 g6 c6 H6 : Nat} {a s : Nat}
    (o5 : w5.ownsRow B 3 1 (.slice (some ⟨g5, 0, none⟩) (l.length + 1) c5) (l.length + 1) ((l.map fun x => .int .i64 (x.1 : Int)) ++ [.int .i64 (a : Int)]))
    (at5 : vd.ownBlock = some g5 ∨ g5 = H5) (h5 : w.heap.size ≤ H5) (l5 : g5 < w5.heap.size) (hb : w5.grownBy Wb none) (hg6 : Wb.grownBy w6 vs.ownBlock)
    (o6 : w6.ownsRow B 35 1 (.slice (some ⟨g6, 0, none⟩) (l.length + 1) c6) (l.length + 1) ((l.map fun x => .float .f64 (fl x.2)) ++ [.float .f64 (fl s)]))
    (at6 : vs.ownBlock = some g6 ∨ g6 = H6) (h6 : w5.heap.size ≤ H6) (han : a < n) (hs : 1 ≤ s ∧ s ≤ 256) (hl : l.length + 1 ≤ 1024) (hup : ∀ x ∈ l, x.1 < a) :
    Built B (.slice (some ⟨g5, 0, none⟩) (l.length + 1) c5) (.slice (some ⟨g6, 0, none⟩) (l.length + 1) c6) (l ++ [(a, s)]) n w6 := by
  have sg : ∀ g, vs.ownBlock = some g → g < w.heap.size := fun g hg => (World.ownsRow.lt h.s g hg).2
  have ne5 : vs.ownBlock ≠ some g5 := fun e => by
    rcases at5 with e5 | e5
    · exact h.ne g5 e5 e
    · have := sg _ e; omega
  refine ⟨?_, ?_, ?_, ?_, ?_, ?_, by simp; omega⟩
  · have q := World.ownsRow.kept (World.ownsRow.kept o5 hb (Classical.em _)) hg6 (Or.inr fun e => ne5 (by rw [← e]; rfl))
    simpa using q
  · simpa using o6
  · intro g e1 e2
    simp [Value.ownBlock] at e1 e2
    subst e1; subst e2
    rcases at6 with e6 | e6
    · exact ne5 e6
    · omega
  · rw [List.pairwise_append]
    refine ⟨h.up, by simp, fun x hx y hy => ?_⟩
    simp at hy; subst hy; exact hup x hx
  · intro x hx
    rcases List.mem_append.1 hx with hx | hx
    · exact h.lt x hx
    · simp at hx; subst hx; exact han
  · intro x hx
    rcases List.mem_append.1 hx with hx | hx
    · exact h.sc x hx
    · simp at hx; subst hx; exact hs

theorem below_last {l : List (Nat × Nat)} (hp : l.Pairwise (fun x y => x.1 < y.1)) {l0 : List (Nat × Nat)} {u : Nat × Nat} (e : l = l0 ++ [u]) : ∀ x ∈ l, x.1 ≤ u.1 := fun x hx => by
  subst e
  rw [List.pairwise_append] at hp
  rcases List.mem_append.1 hx with h | h
  · exact Nat.le_of_lt (hp.2.2 x h u (by simp))
  · simp at h; subst h; exact Nat.le_refl _

set_option maxHeartbeats 6400000 in
set_option maxRecDepth 100000 in
theorem build_any (ad : Option Addr) (b o k cap n : Nat) (P Q : Nat → Nat) (w : World) (H : Hits ad b o k P Q w) (hk : k ≤ 1024) (hn0 : 0 < n) (hn : n ≤ 1024) :
    Calls Yba.prog 5 #[.slice ad k cap, .int .i64 n] w fun e w' => ∃ (vd vs : Value) (l : List (Nat × Nat)), e = .returned (.tuple #[vd, vs]) ∧ Built w.heap.size vd vs l n w' ∧ w.grownBy w' none := by
  obtain ⟨i0, z0, hi0, hz0, hz1, hz2, hz3⟩ := info_parts40
  obtain ⟨W1, hmk, hown1, hg1⟩ := run_make_own (P := Yba.prog) w w.heap.size 32 40 i0 z0 2 Yba.underlying32 hi0 hz0 hz1 .i64 .i64 k (by rw [hz2]; omega) (by unfold maxLen; omega) (Nat.le_refl _)
  have HI : Hid (Hits ad b o k P Q w) := H
  have HG1 : Hid (w.grownBy W1 none) := hg1
  have HO1 : Hid (OwnM w.heap.size (.slice (some ⟨w.heap.size, 0, none⟩) 0 k) #[] W1) := hown1
  clear H hg1 hown1
  go_enter Yba.func5, Yba.ntmps5
  go_wp2
  go_loopw [6, 18] (fun v i wr => ∃ (j g c : Nat) (d : Array Mt), i = .int .i64 j ∧ j ≤ k ∧ d.size = j ∧ v = .slice (some ⟨g, 0, none⟩) j c ∧ OwnM w.heap.size v d wr ∧ w.grownBy wr none ∧ (∀ t, t < j → (1 ≤ d[t]!.2 ∧ d[t]!.2 ≤ 256) ∧ 0 ≤ d[t]!.1 ∧ d[t]!.1 < n)) (fun _ i _ => k - (intOf i).toNat)
  case atStart => exact ⟨0, _, _, #[], rfl, Nat.zero_le _, rfl, rfl, HO1.out, HG1.out, fun t ht => by omega⟩
  case round =>
    obtain ⟨j, g, c, d, rfl, hj, hd, rfl, hO, hG, hB⟩ := hrel
    have HO : Hid (OwnM w.heap.size (.slice (some ⟨g, 0, none⟩) j c) d wr) := hO
    have HG : Hid (w.grownBy wr none) := hG
    have HB : Hid (d.size = j ∧ ∀ t, t < j → (1 ≤ d[t]!.2 ∧ d[t]!.2 ≤ 256) ∧ 0 ≤ d[t]!.1 ∧ d[t]!.1 < n) := ⟨hd, hB⟩
    clear hd hB HG1 HO1 hmk
    by_cases hjk : j < k
    · obtain rfl := HI.out.ad (by omega)
      have c0 := HG.out.cell (HI.out.c0 j hjk) (by simp)
      have c1 := HG.out.cell (HI.out.c1 j hjk) (by simp)
      have hji : (j : Int) < (k : Int) := by omega
      have hp := HI.out.p j
      have hq := HI.out.q j
      have hrem : Int.tmod (P j : Int) (n : Int) = (P j : Int) % (n : Int) := Int.tmod_eq_emod_of_nonneg (by omega)
      have hn1 : ¬ n = 0 := by omega
      have hwP : IntKind.i64.wrap (P j : Int) = (P j : Int) := IntWalk.i64_in _ (by omega)
      have hcv : floatOfInt .f64 (Q j : Int) = fl (Q j) := rfl
      have hadd : floatBits .add .f64 (fl (Q j)) 4607182418800017408 = some (fl (Q j + 1)) := add_fl (Q j) 1 (by omega) (by omega)
      have a1 := fun w => run_float_arith (P := Yba.prog) w .add 35 .f64 _ _ _ hadd
      obtain ⟨m, hm⟩ : ∃ m : Mt, m = (((P j : Int) % (n : Int)), Q j + 1) := ⟨_, rfl⟩
      have hml : j + 1 ≤ maxLen := by unfold maxLen; omega
      have hbk : (j + 1) * 16 ≤ 140737488355328 := by omega
      have hwr := HG.out.size
      clear hO hG
      go_wp2
      have W2g : wr.grownBy (wr.alloc (.cells #[.int .u16 (P j), .int .u8 (Q j)] 56)) none := World.grownBy_alloc _ _ _
      have m0 : (wr.alloc (.cells #[.int .u16 (P j), .int .u8 (Q j)] 56)).cell? ⟨wr.heap.size, 0, none⟩ = some (.int .u16 (P j)) := by rw [World.cell?_alloc_new]; rfl
      have m1 : (wr.alloc (.cells #[.int .u16 (P j), .int .u8 (Q j)] 56)).cell? ⟨wr.heap.size, 1, none⟩ = some (.int .u8 (Q j)) := by rw [World.cell?_alloc_new]; rfl
      have hs2 : (wr.alloc (.cells #[.int .u16 (P j), .int .u8 (Q j)] 56)).heap.size = wr.heap.size + 1 := by simp
      generalize wr.alloc (.cells #[.int .u16 (P j), .int .u8 (Q j)] 56) = W2 at W2g m0 m1 hs2 ⊢
      have HG2 : Hid (wr.grownBy W2 none) := W2g
      have hwr2 : w.heap.size ≤ W2.heap.size := by omega
      have HOw : Hid (∀ W, W2.grownBy W none → W.ownsRow w.heap.size 40 2 (.slice (some ⟨g, 0, none⟩) j c) j (flat d.toList)) := fun W hW => (by
        have q := World.ownsRow.kept HO.out (W2g.trans hW) (by simp [Value.ownBlock])
        rw [HB.out.1] at q
        exact q)
      clear W2g c0 c1 hs2
      go_region_law
        (first | (refine step_append_lies _ (by rfl) (.tmp 22) (.tmp 33) 32 (by rfl) w.heap.size 40 i0 _ 2 16 Yba.underlying32 hi0 hz0 hz1 hz2 hz3 (by omega) (.slice (some ⟨g, 0, none⟩) j c) j (flat d.toList) (by rfl) (HOw.out _ (by first | exact (grown_drew _).trans (World.grownBy_alloc _ _ _) | exact (World.grownBy_alloc _ _ _).trans (grown_drew _))) ⟨W2.heap.size, 0, none⟩ 1 1 [.int .i64 ((P j : Int) % (n : Int)), .float .f64 (fl (Q j + 1))] (by rfl) (by rfl) (World.news_of_block (cs := #[.int .i64 ((P j : Int) % (n : Int)), .float .f64 (fl (Q j + 1))]) (t := 40) (fr := (0, 0)) (heap_alloc_new W2 _)) (by simp [Value.oneCell']) (by omega) hml hbk (by simp; omega) (W2.heap.size + 1) (by simp) ?_; intro gg cap2 w2 hown2 hgrow hat hlt; have HW : Hid (w2.ownsRow w.heap.size 40 2 (.slice (some ⟨gg, 0, none⟩) (j + 1) cap2) (j + 1) (flat (d.push ((P j : Int) % (n : Int), Q j + 1)).toList) ∧ w.grownBy w2 none) := (by
          refine ⟨by rw [Array.toList_push, flat_append]; exact hown2, ?_⟩
          refine grown_own ?_ hgrow HO.out.rowS.1
          first
            | exact (HG.out.trans HG2.out).trans ((grown_drew _).trans (World.grownBy_alloc _ _ _))
            | exact (HG.out.trans HG2.out).trans ((World.grownBy_alloc _ _ _).trans (grown_drew _))); clear hown2 hgrow hat hlt))
      all_goals
        clear m0 m1
        go_wp2
        go_roundw
        case measure => simp [intOf]; omega
        case rel =>
          refine ⟨j + 1, gg, cap2, d.push ((P j : Int) % (n : Int), Q j + 1), rfl, by omega, by simp [HB.out.1], rfl, ?_, HW.out.2, fun t ht => ?_⟩
          · unfold OwnM; rw [Array.size_push, HB.out.1]; exact HW.out.1
          · by_cases htj : t < j
            · rw [getElem!_pos _ t (by simp; have := HB.out.1; omega), Array.getElem_push_lt (by have := HB.out.1; omega), ← getElem!_pos d t]; exact HB.out.2 t htj
            · obtain rfl : t = j := by omega
              have e : (d.push ((P t : Int) % (n : Int), Q t + 1))[t]! = ((P t : Int) % (n : Int), Q t + 1) := by
                rw [getElem!_pos _ t (by simp; have := HB.out.1; omega)]
                simp [Array.getElem_push, HB.out.1]
              rw [e]
              exact ⟨by simp; omega, Int.emod_nonneg _ (by omega), Int.emod_lt_of_pos _ (by omega)⟩
    · have hji : ¬ (j : Int) < (k : Int) := by omega
      obtain rfl : j = k := by omega
      obtain ⟨i3, z3, hi3, hy0, hy1, hy2, hy3⟩ := info_parts3
      obtain ⟨i35, z35, hi35, hx0, hx1, hx2, hx3⟩ := info_parts35
      have hgo := goes12
      clear hO hG
      go_wp2_with (go_at_call 11; refine (sortStable cmps12 swoDoc g c j d wr HB.out.1 HO.out.rowS.2 (fun t ht => Nat.lt_of_le_of_lt (HB.out.2 t (by have := HB.out.1; omega)).1.2 (by omega)) hk).mono ?_; rintro z w1 ⟨rfl, d1, hP1, hS1, hR1, hG1⟩)
      have HD : Hid ((∀ t, t < j → (1 ≤ d1[t]!.2 ∧ d1[t]!.2 ≤ 256) ∧ 0 ≤ d1[t]!.1 ∧ d1[t]!.1 < n) ∧ SortedIn ltDoc 0 j d1 ∧ d1.size = j ∧ RowM g d1 w1 ∧ w.grownBy w1 none) := ⟨perm_all (p := fun x => (1 ≤ x.2 ∧ x.2 ≤ 256) ∧ 0 ≤ x.1 ∧ x.1 < (n : Int)) hP1 HB.out.1 HB.out.2, hS1, hP1.1.trans HB.out.1, hR1, grown_own HG.out hG1 HO.out.rowS.1⟩
      have hgw1 : g < w1.heap.size := hR1.lt
      clear hP1 hS1 hR1 hG1 HO HG HB
      go_loopw [9, 10, 40] (fun vd vs vi wx => ∃ (i : Nat) (l : List (Nat × Nat)) (ud us : Value), ud = vd ∧ us = vs ∧ vi = .int .i64 i ∧ i ≤ j ∧ Built w1.heap.size vd vs l n wx ∧ l.length ≤ i ∧ (0 < i → ∃ l0 x, l = l0 ++ [x] ∧ (x.1 : Int) = d1[i - 1]!.1) ∧ w1.grownBy wx none) (fun _ _ vi _ => j - (intOf vi).toNat)
      case atStart => exact ⟨0, [], _, _, rfl, rfl, rfl, Nat.zero_le _, ⟨World.ownsRow_nil _ _ _ _, World.ownsRow_nil _ _ _ _, (fun g h => by cases h), List.Pairwise.nil, (fun x h => by simp at h), (fun x h => by simp at h), by simp⟩, by simp, (fun h => by omega), grown_refl _ _⟩
      case round =>
        obtain ⟨i, l, vd, vs, rfl, rfl, rfl, hij, hBu, hli, hlast, hGx⟩ := hrel
        have HX : Hid (Built w1.heap.size vd vs l n wr ∧ (0 < i → ∃ l0 x, l = l0 ++ [x] ∧ (x.1 : Int) = d1[i - 1]!.1) ∧ w1.grownBy wr none) := ⟨hBu, hlast, hGx⟩
        clear hBu hlast hGx
        by_cases hilt : i < j
        · have hii : (i : Int) < (j : Int) := by omega
          obtain ⟨x, hx⟩ : ∃ x, x = d1[i]! := ⟨_, rfl⟩
          have hR : RowM g d1 wr := HD.out.2.2.2.1.grown HX.out.2.2 (by simp)
          have e0 := hR.c0 i (by rw [HD.out.2.2.1]; exact hilt)
          have e1 := hR.c1 i (by rw [HD.out.2.2.1]; exact hilt)
          rw [← hx] at e0 e1
          have HXX : Hid (x = d1[i]!) := hx
          have hgr : g < wr.heap.size := hR.lt
          clear hx
          by_cases h0 : 0 < i
          · have h0d : decide ((0 : Int) < (i : Int)) = true := by simp; omega
            obtain ⟨q, hq⟩ : ∃ q : Nat, (i : Int) - 1 = (q : Int) := ⟨i - 1, by omega⟩
            have hqj : (q : Int) < (j : Int) := by omega
            obtain ⟨y, hy⟩ : ∃ y, y = d1[q]! := ⟨_, rfl⟩
            have e2 := hR.c0 q (by rw [HD.out.2.2.1]; omega)
            rw [← hy] at e2
            have HYY : Hid (y = d1[q]!) := hy
            clear hy hR
            by_cases heq : y.1 = x.1
            · have hed : (y.1 == x.1) = true := by simp [heq]
              go_wp2
              have W2g : wr.grownBy (wr.alloc (.cells #[.int .i64 x.1, .float .f64 (fl x.2)] 40)) none := World.grownBy_alloc _ _ _
              have f0 := W2g.cell e0 (by simp)
              have f2 := W2g.cell e2 (by simp)
              have m0 : (wr.alloc (.cells #[.int .i64 x.1, .float .f64 (fl x.2)] 40)).cell? ⟨wr.heap.size, 0, none⟩ = some (.int .i64 x.1) := by rw [World.cell?_alloc_new]; rfl
              have HG2 : Hid (wr.grownBy (wr.alloc (.cells #[.int .i64 x.1, .float .f64 (fl x.2)] 40)) none) := W2g
              clear e0 e1 e2 W2g
              generalize wr.alloc (.cells #[.int .i64 x.1, .float .f64 (fl x.2)] 40) = W2 at HG2 f0 f2 m0 ⊢
              go_quiet (fail)
              go_wp2
              go_roundw
              case measure => simp [intOf]; omega
              case rel =>
                refine ⟨i + 1, l, vd, vs, rfl, rfl, rfl, by omega, ?_, by omega, fun _ => ?_, HX.out.2.2.trans (HG2.out.trans (grown_drewN _ _))⟩
                · exact HX.out.1.kept (HG2.out.trans (grown_drewN _ _))
                · obtain ⟨l0, u, e1, e2⟩ := HX.out.2.1 h0
                  refine ⟨l0, u, e1, ?_⟩
                  rw [e2, show i + 1 - 1 = i by omega, ← HXX.out, ← heq, HYY.out, show q = i - 1 by omega]
            · have hed : (y.1 == x.1) = false := by simp [heq]
              go_wp2
              have W2g : wr.grownBy (wr.alloc (.cells #[.int .i64 x.1, .float .f64 (fl x.2)] 40)) none := World.grownBy_alloc _ _ _
              have f0 := W2g.cell e0 (by simp)
              have f2 := W2g.cell e2 (by simp)
              have m0 : (wr.alloc (.cells #[.int .i64 x.1, .float .f64 (fl x.2)] 40)).cell? ⟨wr.heap.size, 0, none⟩ = some (.int .i64 x.1) := by rw [World.cell?_alloc_new]; rfl
              have m1 : (wr.alloc (.cells #[.int .i64 x.1, .float .f64 (fl x.2)] 40)).cell? ⟨wr.heap.size, 1, none⟩ = some (.float .f64 (fl x.2)) := by rw [World.cell?_alloc_new]; rfl
              have HG2 : Hid (wr.grownBy (wr.alloc (.cells #[.int .i64 x.1, .float .f64 (fl x.2)] 40)) none) := W2g
              have HS2 : Hid ((wr.alloc (.cells #[.int .i64 x.1, .float .f64 (fl x.2)] 40)).heap.size = wr.heap.size + 1) := show _ = _ by simp
              clear e0 e1 e2 W2g
              generalize wr.alloc (.cells #[.int .i64 x.1, .float .f64 (fl x.2)] 40) = W2 at HG2 HS2 f0 f2 m0 m1 ⊢
              go_quiet (fail)
              have HG3 : Hid (wr.grownBy (W2.drewN nq) none) := HG2.out.trans (grown_drewN _ _)
              have HS3 : Hid ((W2.drewN nq).heap.size = wr.heap.size + 1) := HS2.out
              have n0 := (grown_drewN W2 nq).cell m0 (by simp)
              have n1 := (grown_drewN W2 nq).cell m1 (by simp)
              clear f0 f2 m0 m1
              generalize W2.drewN nq = W3 at HG3 HS3 n0 n1 ⊢
              have HB3 : Hid (Built w1.heap.size vd vs l n W3) := HX.out.1.kept HG3.out
              have hw13 : w1.heap.size ≤ W3.heap.size := Nat.le_trans HX.out.2.2.size HG3.out.size
              have HNd : Hid (some wr.heap.size ≠ vd.ownBlock) := fun e => by have := (World.ownsRow.lt HX.out.1.d _ e.symm).2; omega
              have hml : l.length + 1 ≤ maxLen := by unfold maxLen; omega
              go_wp2_with (first
                | (at_builtin; refine wpList_append_lies _ (by rfl) (.tmp 58) (.tmp 61) 24 (by rfl) w1.heap.size 3 i3 z3 1 8 Yba.underlying24 hi3 hy0 hy1 hy2 hy3 (by omega) vd l.length (l.map fun x => .int .i64 (x.1 : Int)) (by rfl) (HB3.out.kept (World.grownBy_alloc _ _ _)).d ⟨W3.heap.size, 0, none⟩ 1 1 [.int .i64 x.1] (by rfl) (by rfl) (cell_one_new _ _ _) (by simp [Value.oneCell']) (by omega) hml (by omega) (by simp; omega) (W3.heap.size + 1) (by simp) ?_; intro g5 c5 w5 hown5 hgrow5 hat5 hlt5; have HO5 : Hid (w5.ownsRow w1.heap.size 3 1 (.slice (some ⟨g5, 0, none⟩) (l.length + 1) c5) (l.length + 1) ((l.map fun x => .int .i64 (x.1 : Int)) ++ [.int .i64 x.1]) ∧ (W3.alloc (.cells #[.int .i64 x.1] 3)).grownBy w5 vd.ownBlock ∧ (vd.ownBlock = some g5 ∨ g5 = W3.heap.size + 1) ∧ g5 < w5.heap.size) := ⟨hown5, hgrow5, hat5, hlt5⟩; have p1 := hgrow5.cell ((World.grownBy_alloc W3 _ none).cell n1 (by simp)) HNd.out; have hw15 : w1.heap.size ≤ w5.heap.size := (by have := hgrow5.size; simp at this; omega); clear hown5 hgrow5 hat5 hlt5)
                | (at_builtin; refine wpList_append_lies _ (by rfl) (.tmp 63) (.tmp 66) 25 (by rfl) w1.heap.size 35 i35 z35 1 8 Yba.underlying25 hi35 hx0 hx1 hx2 hx3 (by omega) vs l.length (l.map fun x => .float .f64 (fl x.2)) (by rfl) (World.ownsRow.kept (HB3.out.sKept (World.grownBy_alloc _ _ _) HO5.out.2.1) (World.grownBy_alloc _ _ none) (Classical.em _)) ⟨w5.heap.size, 0, none⟩ 1 1 [.float .f64 (fl x.2)] (by rfl) (by rfl) (cell_one_new _ _ _) (by simp [Value.oneCell']) (by omega) hml (by omega) (by simp; omega) (w5.heap.size + 1) (by simp) ?_; intro g6 c6 w6 hown6 hgrow6 hat6 hlt6; have HO6 : Hid (w6.ownsRow w1.heap.size 35 1 (.slice (some ⟨g6, 0, none⟩) (l.length + 1) c6) (l.length + 1) ((l.map fun x => .float .f64 (fl x.2)) ++ [.float .f64 (fl x.2)]) ∧ (w5.alloc (.cells #[.float .f64 (fl x.2)] 35)).grownBy w6 vs.ownBlock ∧ (vs.ownBlock = some g6 ∨ g6 = w5.heap.size + 1) ∧ g6 < w6.heap.size) := ⟨hown6, hgrow6, hat6, hlt6⟩; clear hown6 hgrow6 hat6 hlt6))
              go_roundw
              case measure => simp [intOf]; omega
              case rel =>
                have hxb := HD.out.1 i hilt
                rw [← HXX.out] at hxb
                obtain ⟨xd, hxd⟩ : ∃ xd : Nat, x.1 = (xd : Int) := ⟨x.1.toNat, by omega⟩
                refine ⟨i + 1, l ++ [(xd, x.2)], _, _, rfl, rfl, rfl, by omega, ?_, by simp; omega, fun _ => ⟨l, (xd, x.2), rfl, by rw [show i + 1 - 1 = i by omega, ← HXX.out]; exact hxd.symm⟩, ?_⟩
                · have o5 := HO5.out.1
                  rw [hxd] at o5
                  refine HB3.out.push o5 HO5.out.2.2.1 (by omega) HO5.out.2.2.2 (World.grownBy_alloc _ _ _) HO6.out.2.1 HO6.out.1 HO6.out.2.2.1 (by omega) (by omega) hxb.1 (by omega) (fun u hu => ?_)
                  have hso := HD.out.2.1 q i (by omega) (by omega) hilt
                  rw [← HXX.out, ← HYY.out] at hso
                  obtain ⟨l0, t, e1, e2⟩ := HX.out.2.1 h0
                  have := below_last HX.out.1.up e1 u hu
                  rw [show i - 1 = q by omega, ← HYY.out] at e2
                  simp [ltDoc] at hso
                  omega
                · exact grown_rows ((grown_rows ((HX.out.2.2.trans HG3.out).trans (World.grownBy_alloc _ _ _)) HO5.out.2.1 (fun k hk => (World.ownsRow.lt HB3.out.d k hk).1)).trans (World.grownBy_alloc _ _ _)) HO6.out.2.1 (fun k hk => (World.ownsRow.lt HB3.out.s k hk).1)
          · have h0d : decide ((0 : Int) < (i : Int)) = false := by simp; omega
            clear hR
            go_wp2
            have W2g : wr.grownBy (wr.alloc (.cells #[.int .i64 x.1, .float .f64 (fl x.2)] 40)) none := World.grownBy_alloc _ _ _
            have f0 := W2g.cell e0 (by simp)
            have m0 : (wr.alloc (.cells #[.int .i64 x.1, .float .f64 (fl x.2)] 40)).cell? ⟨wr.heap.size, 0, none⟩ = some (.int .i64 x.1) := by rw [World.cell?_alloc_new]; rfl
            have m1 : (wr.alloc (.cells #[.int .i64 x.1, .float .f64 (fl x.2)] 40)).cell? ⟨wr.heap.size, 1, none⟩ = some (.float .f64 (fl x.2)) := by rw [World.cell?_alloc_new]; rfl
            have HG2 : Hid (wr.grownBy (wr.alloc (.cells #[.int .i64 x.1, .float .f64 (fl x.2)] 40)) none) := W2g
            have HS2 : Hid ((wr.alloc (.cells #[.int .i64 x.1, .float .f64 (fl x.2)] 40)).heap.size = wr.heap.size + 1) := show _ = _ by simp
            clear e0 e1 W2g
            generalize wr.alloc (.cells #[.int .i64 x.1, .float .f64 (fl x.2)] 40) = W2 at HG2 HS2 f0 m0 m1 ⊢
            go_quiet (fail)
            have HG3 : Hid (wr.grownBy (W2.drewN nq) none) := HG2.out.trans (grown_drewN _ _)
            have HS3 : Hid ((W2.drewN nq).heap.size = wr.heap.size + 1) := HS2.out
            have n0 := (grown_drewN W2 nq).cell m0 (by simp)
            have n1 := (grown_drewN W2 nq).cell m1 (by simp)
            clear f0 m0 m1
            generalize W2.drewN nq = W3 at HG3 HS3 n0 n1 ⊢
            have HB3 : Hid (Built w1.heap.size vd vs l n W3) := HX.out.1.kept HG3.out
            have hw13 : w1.heap.size ≤ W3.heap.size := Nat.le_trans HX.out.2.2.size HG3.out.size
            have HNd : Hid (some wr.heap.size ≠ vd.ownBlock) := fun e => by have := (World.ownsRow.lt HX.out.1.d _ e.symm).2; omega
            have hml : l.length + 1 ≤ maxLen := by unfold maxLen; omega
            go_wp2_with (first
              | (at_builtin; refine wpList_append_lies _ (by rfl) (.tmp 58) (.tmp 61) 24 (by rfl) w1.heap.size 3 i3 z3 1 8 Yba.underlying24 hi3 hy0 hy1 hy2 hy3 (by omega) vd l.length (l.map fun x => .int .i64 (x.1 : Int)) (by rfl) (HB3.out.kept (World.grownBy_alloc _ _ _)).d ⟨W3.heap.size, 0, none⟩ 1 1 [.int .i64 x.1] (by rfl) (by rfl) (cell_one_new _ _ _) (by simp [Value.oneCell']) (by omega) hml (by omega) (by simp; omega) (W3.heap.size + 1) (by simp) ?_; intro g5 c5 w5 hown5 hgrow5 hat5 hlt5; have HO5 : Hid (w5.ownsRow w1.heap.size 3 1 (.slice (some ⟨g5, 0, none⟩) (l.length + 1) c5) (l.length + 1) ((l.map fun x => .int .i64 (x.1 : Int)) ++ [.int .i64 x.1]) ∧ (W3.alloc (.cells #[.int .i64 x.1] 3)).grownBy w5 vd.ownBlock ∧ (vd.ownBlock = some g5 ∨ g5 = W3.heap.size + 1) ∧ g5 < w5.heap.size) := ⟨hown5, hgrow5, hat5, hlt5⟩; have p1 := hgrow5.cell ((World.grownBy_alloc W3 _ none).cell n1 (by simp)) HNd.out; have hw15 : w1.heap.size ≤ w5.heap.size := (by have := hgrow5.size; simp at this; omega); clear hown5 hgrow5 hat5 hlt5)
              | (at_builtin; refine wpList_append_lies _ (by rfl) (.tmp 63) (.tmp 66) 25 (by rfl) w1.heap.size 35 i35 z35 1 8 Yba.underlying25 hi35 hx0 hx1 hx2 hx3 (by omega) vs l.length (l.map fun x => .float .f64 (fl x.2)) (by rfl) (World.ownsRow.kept (HB3.out.sKept (World.grownBy_alloc _ _ _) HO5.out.2.1) (World.grownBy_alloc _ _ none) (Classical.em _)) ⟨w5.heap.size, 0, none⟩ 1 1 [.float .f64 (fl x.2)] (by rfl) (by rfl) (cell_one_new _ _ _) (by simp [Value.oneCell']) (by omega) hml (by omega) (by simp; omega) (w5.heap.size + 1) (by simp) ?_; intro g6 c6 w6 hown6 hgrow6 hat6 hlt6; have HO6 : Hid (w6.ownsRow w1.heap.size 35 1 (.slice (some ⟨g6, 0, none⟩) (l.length + 1) c6) (l.length + 1) ((l.map fun x => .float .f64 (fl x.2)) ++ [.float .f64 (fl x.2)]) ∧ (w5.alloc (.cells #[.float .f64 (fl x.2)] 35)).grownBy w6 vs.ownBlock ∧ (vs.ownBlock = some g6 ∨ g6 = w5.heap.size + 1) ∧ g6 < w6.heap.size) := ⟨hown6, hgrow6, hat6, hlt6⟩; clear hown6 hgrow6 hat6 hlt6))
            go_roundw
            case measure => simp [intOf]; omega
            case rel =>
              have hxb := HD.out.1 i hilt
              rw [← HXX.out] at hxb
              obtain ⟨xd, hxd⟩ : ∃ xd : Nat, x.1 = (xd : Int) := ⟨x.1.toNat, by omega⟩
              refine ⟨i + 1, l ++ [(xd, x.2)], _, _, rfl, rfl, rfl, by omega, ?_, by simp; omega, fun _ => ⟨l, (xd, x.2), rfl, by rw [show i + 1 - 1 = i by omega, ← HXX.out]; exact hxd.symm⟩, ?_⟩
              · have o5 := HO5.out.1
                rw [hxd] at o5
                refine HB3.out.push o5 HO5.out.2.2.1 (by omega) HO5.out.2.2.2 (World.grownBy_alloc _ _ _) HO6.out.2.1 HO6.out.1 HO6.out.2.2.1 (by omega) (by omega) hxb.1 (by omega) (fun u hu => ?_)
                have : l = [] := List.eq_nil_of_length_eq_zero (by omega)
                rw [this] at hu; simp at hu
              · exact grown_rows ((grown_rows ((HX.out.2.2.trans HG3.out).trans (World.grownBy_alloc _ _ _)) HO5.out.2.1 (fun k hk => (World.ownsRow.lt HB3.out.d k hk).1)).trans (World.grownBy_alloc _ _ _)) HO6.out.2.1 (fun k hk => (World.ownsRow.lt HB3.out.s k hk).1)
        · have hii : ¬ (i : Int) < (j : Int) := by omega
          go_wp2
          refine bodyPost_ret (v := .tuple #[vd, vs]) (by simp [results, Yba.results5, go_sem]) rfl ?_
          exact ⟨vd, vs, rfl, ⟨l, HX.out.1.low HD.out.2.2.2.2.size⟩, HD.out.2.2.2.2.trans HX.out.2.2⟩
end Go.Proofs.Ybulkchng
