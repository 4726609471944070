/-
  Three clauses laid out, and searched.
-/
import Derived.Test.YbulkchngThree
namespace Go.Proofs.Ybulkchng
open Go.RowKit Go.Sort

theorem scor_of {W : World} {l : List (Nat × Nat)} {da fa : Option Addr} {db fb dc fc n H D sb : Nat} (hb : W.heap[sb]? = some (.cells #[.slice da l.length dc, .slice fa l.length fc, .int .i64 (-1)] 30 (0, 0))) (h : Laid l da fa db fb n H D W) (hH : H ≤ sb) (hD : sb < D) : ScorAt ⟨sb, db, fb, da, fa, l.length, dc, fc⟩ (Dl l) (Sl l) (-1) W := by
  have c : ∀ i, W.cell? ⟨sb, i, none⟩ = _ := fun i => cell_of_row _ _ i _ 30 (0, 0) hb
  refine ⟨by rw [c]; rfl, by rw [c]; rfl, by rw [c]; rfl, fun i => frozen_of_row _ _ i _ 30 hb, fun q => (h.d1 q).1, fun q => (h.s1 q).1, fun i hi => h.cd i hi, fun i hi => h.cs i hi, ?_, ?_⟩
  · show sb ≠ db
    by_cases q : 0 < l.length
    · have := (h.d1 q).2; omega
    · rw [h.d2 (by omega)]; omega
  · show sb ≠ fb
    by_cases q : 0 < l.length
    · have := (h.s1 q).2; omega
    · rw [h.s2 (by omega)]; omega

/-- The scorers' blocks and the clauses'. -/
structure Set3 (la lb lp : List (Nat × Nat)) (a b p : Option Addr × Option Addr × Nat × Nat × Nat × Nat) (n sb : Nat) (w : World) : Prop where
  ba : w.heap[sb]? = some (.cells #[.slice a.1 la.length a.2.2.2.2.1, .slice a.2.1 la.length a.2.2.2.2.2, .int .i64 (-1)] 30 (0, 0))
  bb : w.heap[sb + 1]? = some (.cells #[.slice b.1 lb.length b.2.2.2.2.1, .slice b.2.1 lb.length b.2.2.2.2.2, .int .i64 (-1)] 30 (0, 0))
  bp : w.heap[sb + 1 + 1]? = some (.cells #[.slice p.1 lp.length p.2.2.2.2.1, .slice p.2.1 lp.length p.2.2.2.2.2, .int .i64 (-1)] 30 (0, 0))
  bc : w.heap[sb + 1 + 1 + 1]? = some (.cells #[.string { data := #[111, 112, 116, 105, 111, 110, 97, 108] }, .float .f64 4607182418800017408, .iface 28 (.pointer (some ⟨sb, 0, none⟩)), .string { data := #[111, 112, 116, 105, 111, 110, 97, 108] }, .float .f64 4611686018427387904, .iface 28 (.pointer (some ⟨sb + 1, 0, none⟩)), .string { data := #[112, 114, 111, 104, 105, 98, 105, 116, 101, 100] }, .float .f64 4607182418800017408, .iface 28 (.pointer (some ⟨sb + 1 + 1, 0, none⟩))] 50 (0, 0))
  la : Laid la a.1 a.2.1 a.2.2.1 a.2.2.2.1 n sb (sb + 1 + 1 + 1) w
  lb : Laid lb b.1 b.2.1 b.2.2.1 b.2.2.2.1 n sb (sb + 1 + 1 + 1) w
  lp : Laid lp p.1 p.2.1 p.2.2.1 p.2.2.2.1 n sb (sb + 1 + 1 + 1) w

theorem Set3.kept {la lb lp : List (Nat × Nat)} {a b p : Option Addr × Option Addr × Nat × Nat × Nat × Nat} {n sb : Nat} {w w' : World} (h : Set3 la lb lp a b p n sb w) (hg : w.grownBy w' none) : Set3 la lb lp a b p n sb w' := by
  have k : ∀ {i : Nat} {o : Obj}, w.heap[i]? = some o → w'.heap[i]? = some o := fun {i o} hi => (hg.block i (Array.getElem?_eq_some_iff.1 hi).1 (by simp)).trans hi
  exact ⟨k h.ba, k h.bb, k h.bp, k h.bc, h.la.kept hg, h.lb.kept hg, h.lp.kept hg⟩

theorem fl_1 : fl 1 = 4607182418800017408 := by kernel_rfl
theorem fl_2 : fl 2 = 4611686018427387904 := by kernel_rfl

theorem Set3.cls {la lb lp : List (Nat × Nat)} {a b p : Option Addr × Option Addr × Nat × Nat × Nat × Nat} {n sb : Nat} {w : World} (h : Set3 la lb lp a b p n sb w) (cb base limit : Nat) : Cls (tri sb la lb lp a b p cb base limit n) w := by
  have c : ∀ i, w.cell? ⟨sb + 1 + 1 + 1, i, none⟩ = _ := fun i => cell_of_row _ _ i _ 50 (0, 0) h.bc
  refine ⟨fun t ht => ?_, fun t ht => ?_, fun t ht => ?_⟩
  · have ht : t < 3 := ht
    have : t = 0 ∨ t = 1 ∨ t = 2 := by omega
    rcases this with rfl | rfl | rfl
    · show w.cell? ⟨sb + 1 + 1 + 1, 0, none⟩ = some (.string { data := #[111, 112, 116, 105, 111, 110, 97, 108] })
      rw [c]; rfl
    · show w.cell? ⟨sb + 1 + 1 + 1, 3, none⟩ = some (.string { data := #[111, 112, 116, 105, 111, 110, 97, 108] })
      rw [c]; rfl
    · show w.cell? ⟨sb + 1 + 1 + 1, 6, none⟩ = some (.string { data := #[112, 114, 111, 104, 105, 98, 105, 116, 101, 100] })
      rw [c]; rfl
  · have ht : t < 3 := ht
    have : t = 0 ∨ t = 1 ∨ t = 2 := by omega
    rcases this with rfl | rfl | rfl
    · show w.cell? ⟨sb + 1 + 1 + 1, 1, none⟩ = some (.float .f64 (fl 1))
      rw [c, fl_1]; rfl
    · show w.cell? ⟨sb + 1 + 1 + 1, 4, none⟩ = some (.float .f64 (fl 2))
      rw [c, fl_2]; rfl
    · show w.cell? ⟨sb + 1 + 1 + 1, 7, none⟩ = some (.float .f64 (fl 1))
      rw [c, fl_1]; rfl
  · have ht : t < 3 := ht
    have : t = 0 ∨ t = 1 ∨ t = 2 := by omega
    rcases this with rfl | rfl | rfl
    · show w.cell? ⟨sb + 1 + 1 + 1, 2, none⟩ = some (.iface 28 (.pointer (some ⟨sb, 0, none⟩)))
      rw [c]; rfl
    · show w.cell? ⟨sb + 1 + 1 + 1, 5, none⟩ = some (.iface 28 (.pointer (some ⟨sb + 1, 0, none⟩)))
      rw [c]; rfl
    · show w.cell? ⟨sb + 1 + 1 + 1, 8, none⟩ = some (.iface 28 (.pointer (some ⟨sb + 1 + 1, 0, none⟩)))
      rw [c]; rfl

theorem Set3.fam {la lb lp : List (Nat × Nat)} {a b p : Option Addr × Option Addr × Nat × Nat × Nat × Nat} {n sb : Nat} {w : World} (h : Set3 la lb lp a b p n sb w) (cb base limit : Nat) : Fam (tri sb la lb lp a b p cb base limit n) 0 w := fun t ht => by
  have ht : t < 3 := ht
  have : t = 0 ∨ t = 1 ∨ t = 2 := by omega
  rcases this with rfl | rfl | rfl
  · exact ⟨-1, scor_of h.ba h.la (Nat.le_refl _) (by omega), Or.inl rfl⟩
  · exact ⟨-1, scor_of h.bb h.lb (by omega) (by omega), Or.inl rfl⟩
  · exact ⟨-1, scor_of h.bp h.lp (by omega) (by omega), Or.inl rfl⟩

theorem Laid.dbs {l : List (Nat × Nat)} {da fa : Option Addr} {db fb n H D : Nat} {w : World} (h : Laid l da fa db fb n H D w) : (db < H ∨ db = D) ∧ (fb < H ∨ fb = D) := by
  by_cases q : 0 < l.length
  · exact ⟨Or.inl (h.d1 q).2, Or.inl (h.s1 q).2⟩
  · exact ⟨Or.inr (h.d2 (by omega)), Or.inr (h.s2 (by omega))⟩

theorem mem_getD {l : List (Nat × Nat)} {i : Nat} (hi : i < l.length) : l.getD i (0, 0) ∈ l := by simp [hi]

theorem Set3.sem {la lb lp : List (Nat × Nat)} {a b p : Option Addr × Option Addr × Nat × Nat × Nat × Nat} {n sb : Nat} {w : World} (h : Set3 la lb lp a b p n sb w) (cb base limit : Nat) (hcb : sb + 1 + 1 + 1 < cb) (hn : n ≤ 1024) (hba : base < 65536) (hli : 1 ≤ limit ∧ limit ≤ 12) : Sem (tri sb la lb lp a b p cb base limit n) := by
  have three : ∀ t, t < (tri sb la lb lp a b p cb base limit n).N → t = 0 ∨ t = 1 ∨ t = 2 := fun t ht => by have ht : t < 3 := ht; omega
  have sbE : ∀ t, t < (tri sb la lb lp a b p cb base limit n).N → ((tri sb la lb lp a b p cb base limit n).L t).sb = sb + t := fun t ht => by
    rcases three t ht with rfl | rfl | rfl <;> rfl
  have dbE : ∀ t, t < (tri sb la lb lp a b p cb base limit n).N → (((tri sb la lb lp a b p cb base limit n).L t).db < sb ∨ ((tri sb la lb lp a b p cb base limit n).L t).db = sb + 1 + 1 + 1) ∧ (((tri sb la lb lp a b p cb base limit n).L t).fb < sb ∨ ((tri sb la lb lp a b p cb base limit n).L t).fb = sb + 1 + 1 + 1) := fun t ht => by
    rcases three t ht with rfl | rfl | rfl
    · exact h.la.dbs
    · exact h.lb.dbs
    · exact h.lp.dbs
  have h3 : ∀ t, t < (tri sb la lb lp a b p cb base limit n).N → t < 3 := fun t ht => ht
  refine ⟨by show 0 < 2; omega, by show 2 ≤ 3; omega, by show 3 ≤ 3; omega, fun t ht => ?_, fun t ht i hi => ?_, fun t ht i hi => ?_, fun t ht => ?_, fun t => rfl, by show 2 ≤ 2; omega, hn, hba, hli, fun t u ht hu hne => ?_, fun t u ht hu => ?_, fun t u ht hu => ?_, ?_, fun u hu => ?_⟩
  · rcases three t ht with rfl | rfl | rfl
    · exact up_list h.la.up
    · exact up_list h.lb.up
    · exact up_list h.lp.up
  · rcases three t ht with rfl | rfl | rfl
    · exact h.la.lt _ (mem_getD hi)
    · exact h.lb.lt _ (mem_getD hi)
    · exact h.lp.lt _ (mem_getD hi)
  · rcases three t ht with rfl | rfl | rfl
    · exact h.la.sc _ (mem_getD hi)
    · exact h.lb.sc _ (mem_getD hi)
    · exact h.lp.sc _ (mem_getD hi)
  · rcases three t ht with rfl | rfl | rfl
    · exact h.la.len
    · exact h.lb.len
    · exact h.lp.len
  · rw [sbE t ht, sbE u hu]; omega
  · have := (dbE u hu).1; have := h3 t ht; rw [sbE t ht]; omega
  · have := (dbE u hu).2; have := h3 t ht; rw [sbE t ht]; omega
  · rintro ⟨u, hu, e⟩
    have e : cb = ((tri sb la lb lp a b p cb base limit n).L u).sb := e
    have := h3 u hu
    rw [sbE u hu] at e; omega
  · have := dbE u hu
    constructor
    · show _ ≠ cb
      omega
    · show _ ≠ cb
      omega

theorem seg_three {la lb lp : List (Nat × Nat)} {a b p : Option Addr × Option Addr × Nat × Nat × Nat × Nat} {n sb base limit g : Nat} {w8 : World} (h : Set3 la lb lp a b p n sb w8) (hM : Mk (tri sb la lb lp a b p 0 base limit n) g 3 w8) (hg : sb + 1 + 1 + 1 < g) (hn : n ≤ 1024) (hba : base < 65536) (hli : 1 ≤ limit ∧ limit ≤ 12) :
    Calls Yba.prog 6 #[.pointer (some ⟨w8.heap.size, 0, none⟩), .iface 44 (.pointer (some ⟨g, 0, none⟩)), .int .i64 base, .int .i64 n] (w8.alloc (.cells #[.int .i64 limit, .slice none 0 0, .int .i64 0, .bool false, .bool false, .float .f64 4427038433705197568] 37))
      fun e w' => e = .returned (.tuple #[]) ∧ ∃ v h B, Coll w8.heap.size limit v h (offd (tri sb la lb lp a b p 0 base limit n) n).length B w' ∧ Kept limit (offd (tri sb la lb lp a b p 0 base limit n) n) h ∧ Small h ∧ (∀ k, k < sb → w'.heap[k]? = w8.heap[k]?) ∧ w'.os = w8.os ∧ w'.tape = w8.tape ∧ w'.output = w8.output ∧ w8.heap.size ≤ w'.heap.size := by
  obtain ⟨W9, hW9⟩ : ∃ W9, W9 = w8.alloc (collObj limit) := ⟨_, rfl⟩
  have hC9 : Coll w8.heap.size limit (.slice none 0 0) #[] 0 W9.heap.size W9 := by rw [hW9]; exact coll_new w8 limit
  have g9 : w8.grownBy W9 none := by rw [hW9]; exact World.grownBy_alloc _ _ none
  have s9 : W9.heap.size = w8.heap.size + 1 := by rw [hW9]; simp
  have e9 : w8.alloc (.cells #[.int .i64 limit, .slice none 0 0, .int .i64 0, .bool false, .bool false, .float .f64 4427038433705197568] 37) = W9 := hW9.symm
  have hgl : g < w8.heap.size := World.block_lt_of_cell? w8 _ hM.g0
  have h9 := h.kept g9
  have hM9 : Mk (tri sb la lb lp a b p w8.heap.size base limit n) g 3 W9 := by
    obtain ⟨ov, o1, o2⟩ := hM.ov
    obtain ⟨pv, p1, p2, p3⟩ := hM.pv
    exact ⟨g9.cell hM.g0 (by simp), g9.cell hM.g1 (by simp), fun j => (World.frozen?_of_block (g9.block g hgl (by simp))).trans (hM.fz j), ⟨ov, g9.cell o1 (by simp), fun q => World.ownsRow.kept (o2 q) g9 (Classical.em _)⟩, ⟨pv, g9.cell p1 (by simp), World.ownsRow.kept p2 g9 (Classical.em _), p3⟩⟩
  have hsb3 : ∀ k, isS (tri sb la lb lp a b p w8.heap.size base limit n) k → k < sb + 3 := fun k ⟨u, hu, e⟩ => by
    have hu : u < 3 := hu
    have : u = 0 ∨ u = 1 ∨ u = 2 := by omega
    rcases this with rfl | rfl | rfl
    · have e : k = sb := e; omega
    · have e : k = sb + 1 := e; omega
    · have e : k = sb + 1 + 1 := e; omega
  have hS := h.sem w8.heap.size base limit (by omega) hn hba hli
  obtain ⟨pv, p1, p2, _⟩ := hM9.pv
  have hseg := segment_group (tri sb la lb lp a b p w8.heap.size base limit n) hS g W9 hM9 (h9.cls w8.heap.size base limit) hC9 (h9.fam w8.heap.size base limit) ⟨by show g ≠ w8.heap.size; omega, fun q => by have := hsb3 _ q; omega⟩ ⟨by show sb + 1 + 1 + 1 ≠ w8.heap.size; omega, fun q => by have : sb + 1 + 1 + 1 < sb + 3 := hsb3 _ q; omega⟩
    (fun pv' k c1 c2 => by
      rw [p1] at c1
      injection c1 with c1
      subst c1
      have q1 := (World.ownsRow.lt p2 k c2)
      obtain ⟨pv2, r1, r2, _⟩ := hM.pv
      have r1' := g9.cell r1 (by simp)
      rw [p1] at r1'
      injection r1' with r1'
      subst r1'
      have q2 := World.ownsRow.lt r2 k c2
      exact ⟨by show k ≠ w8.heap.size; omega, fun q => by have := hsb3 k q; omega⟩)
    (fun u hu => by
      have hu : u < 3 := hu
      have : u = 0 ∨ u = 1 ∨ u = 2 := by omega
      rcases this with rfl | rfl | rfl
      · have := h.la.dbs; exact ⟨by show a.2.2.1 ≤ W9.heap.size; omega, by show a.2.2.2.1 ≤ W9.heap.size; omega⟩
      · have := h.lb.dbs; exact ⟨by show b.2.2.1 ≤ W9.heap.size; omega, by show b.2.2.2.1 ≤ W9.heap.size; omega⟩
      · have := h.lp.dbs; exact ⟨by show p.2.2.1 ≤ W9.heap.size; omega, by show p.2.2.2.1 ≤ W9.heap.size; omega⟩)
  rw [e9]
  refine hseg.mono ?_
  rintro e w' ⟨rfl, v, hh, B, hc, hk, hs, hf⟩
  have eo : offd (tri sb la lb lp a b p w8.heap.size base limit n) n = offd (tri sb la lb lp a b p 0 base limit n) n := offd_like rfl rfl rfl rfl rfl rfl rfl n
  have hc' : Coll w8.heap.size limit v hh (offd (tri sb la lb lp a b p w8.heap.size base limit n) n).length B w' := hc
  have hk' : Kept limit (offd (tri sb la lb lp a b p w8.heap.size base limit n) n) hh := hk
  rw [eo] at hc' hk'
  refine ⟨rfl, v, hh, B, hc', hk', hs, fun k hk => ?_, hf.os.trans g9.os, hf.tape.trans g9.tape, hf.output.trans g9.output, Nat.le_trans g9.size hf.size⟩
  refine (hf.block k (by omega) ?_).trans (g9.block k (by omega) (by simp))
  rintro (e | ⟨u, hu, e⟩)
  · have e : k = w8.heap.size := e; omega
  · have hu : u < 3 := hu
    have : u = 0 ∨ u = 1 ∨ u = 2 := by omega
    rcases this with rfl | rfl | rfl
    · have e : k = sb := e; omega
    · have e : k = sb + 1 := e; omega
    · have e : k = sb + 1 + 1 := e; omega
end Go.Proofs.Ybulkchng
