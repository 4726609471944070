/-
  A group of clauses in memory: prohibitedAt.
-/
import Derived.Test.YbulkchngFam
namespace Go.Proofs.Ybulkchng
open Go.RowKit

/-- A search: m optional clauses of N, the rest prohibited; where all lies. -/
structure Cx where
  m : Nat
  N : Nat
  L : Nat → Lies
  D : Nat → Nat → Nat
  S : Nat → Nat → Nat
  boost : Nat → Nat
  gb : Nat
  clb : Nat
  cc : Nat
  ob : Nat
  oc : Nat
  pa : Option Addr
  pb : Nat
  pc : Nat
  wb : Nat
  cb : Nat
  bb : Nat
  rb : Nat
  kb : Nat
  base : Nat
  limit : Nat
  n : Nat
  lo : Nat
  hi : Nat

/-- A scorer's own block. -/
def isS (X : Cx) (k : Nat) : Prop := ∃ t, t < X.N ∧ k = (X.L t).sb

def strOpt : ByteArray := { data := #[111, 112, 116, 105, 111, 110, 97, 108] }
def strPro : ByteArray := { data := #[112, 114, 111, 104, 105, 98, 105, 116, 101, 100] }
def occ (X : Cx) (t : Nat) : Value := if t < X.m then .string { data := #[111, 112, 116, 105, 111, 110, 97, 108] } else .string { data := #[112, 114, 111, 104, 105, 98, 105, 116, 101, 100] }
def scv (X : Cx) (t : Nat) : Value := .iface 28 (.pointer (some ⟨(X.L t).sb, 0, none⟩))

/-- The blocks that are only read. -/
def Rd (X : Cx) (k : Nat) : Prop := k = X.gb ∨ k = X.clb ∨ k = X.ob ∨ k = X.pb ∨ ∃ u, u < X.N ∧ (k = (X.L u).db ∨ k = (X.L u).fb)

structure Good (X : Cx) : Prop where
  rc : ∀ k, Rd X k → k ≠ X.cb ∧ k ≠ X.wb ∧ k ≠ X.bb ∧ k ≠ X.rb ∧ k ≠ X.kb
  nd : X.cb ≠ X.wb ∧ X.cb ≠ X.bb ∧ X.cb ≠ X.rb ∧ X.cb ≠ X.kb ∧ X.wb ≠ X.bb ∧ X.wb ≠ X.rb ∧ X.wb ≠ X.kb ∧ X.bb ≠ X.rb ∧ X.bb ≠ X.kb ∧ X.rb ≠ X.kb
  m0 : 0 < X.m
  mN : X.m ≤ X.N
  N3 : X.N ≤ 3
  up : ∀ t, t < X.N → Up (X.L t).n (X.D t)
  dn : ∀ t, t < X.N → ∀ i, i < (X.L t).n → X.D t i < X.n
  sc : ∀ t, t < X.N → ∀ i, i < (X.L t).n → 1 ≤ X.S t i ∧ X.S t i ≤ 256
  ln : ∀ t, t < X.N → (X.L t).n ≤ 1024
  bo : ∀ t, X.boost t = if t = 1 then 2 else 1
  m2 : X.m ≤ 2
  n1 : X.n ≤ 1024
  ba : X.base < 65536
  li : 1 ≤ X.limit ∧ X.limit ≤ 12
  ss : ∀ t u, t < X.N → u < X.N → t ≠ u → (X.L t).sb ≠ (X.L u).sb
  sd : ∀ t u, t < X.N → u < X.N → (X.L t).sb ≠ (X.L u).db
  sf : ∀ t u, t < X.N → u < X.N → (X.L t).sb ≠ (X.L u).fb
  ngb : ¬ isS X X.gb
  nclb : ¬ isS X X.clb
  nob : ¬ isS X X.ob
  npb : ¬ isS X X.pb
  nwb : ¬ isS X X.wb
  ncb : ¬ isS X X.cb
  nbb : ¬ isS X X.bb
  nrb : ¬ isS X X.rb
  nkb : ¬ isS X X.kb

/-- The group's own cells. -/
structure Grp (X : Cx) (w : World) : Prop where
  g0 : w.cell? ⟨X.gb, 0, none⟩ = some (.slice (some ⟨X.clb, 0, none⟩) X.N X.cc)
  g3 : w.cell? ⟨X.gb, 3, none⟩ = some (.slice X.pa (X.N - X.m) X.pc)
  pa : X.m < X.N → X.pa = some ⟨X.pb, 0, none⟩
  k0 : ∀ t, t < X.N → w.cell? ⟨X.clb, t * 3, none⟩ = some (occ X t)
  k1 : ∀ t, t < X.N → w.cell? ⟨X.clb, t * 3 + 1, none⟩ = some (.float .f64 (fl (X.boost t)))
  k2 : ∀ t, t < X.N → w.cell? ⟨X.clb, t * 3 + 2, none⟩ = some (scv X t)
  pr : ∀ i, i < X.N - X.m → w.cell? ⟨X.pb, i, none⟩ = some (scv X (X.m + i))

theorem Grp.kept {X : Cx} {w w' : World} {row : Option Nat} (g : Grp X w) (hg : w.grownBy w' row) (h1 : row ≠ some X.gb) (h2 : row ≠ some X.clb) (h3 : row ≠ some X.pb) : Grp X w' :=
  ⟨hg.cell g.g0 h1.symm, hg.cell g.g3 h1.symm, g.pa, fun t ht => hg.cell (g.k0 t ht) h2.symm, fun t ht => hg.cell (g.k1 t ht) h2.symm, fun t ht => hg.cell (g.k2 t ht) h2.symm, fun i hi => hg.cell (g.pr i hi) h3.symm⟩

def Fam (X : Cx) (t : Nat) (w : World) : Prop := ∀ u, u < X.N → Tends (X.L u) (X.D u) (X.S u) t w

theorem Fam.step {X : Cx} (G : Good X) {t u : Nat} {w w' : World} (h : Fam X t w) (hu : u < X.N) (hg : w.grownBy w' (some (X.L u).sb)) (hs : Tends (X.L u) (X.D u) (X.S u) t w') : Fam X t w' := fun v hv => by
  by_cases e : v = u
  · subst e; exact hs
  · exact (h v hv).kept hg (fun q => G.ss u v hu hv (Ne.symm e) (by injection q)) (fun q => G.sd u v hu hv (by injection q)) (fun q => G.sf u v hu hv (by injection q))
theorem Fam.mono {X : Cx} {t t' : Nat} {w : World} (h : Fam X t w) (ht : t ≤ t') : Fam X t' w := fun u hu => (h u hu).mono ht
theorem Fam.kept {X : Cx} {t : Nat} {w w' : World} {row : Option Nat} (h : Fam X t w) (hg : w.grownBy w' row) (h1 : ∀ u, u < X.N → row ≠ some (X.L u).sb ∧ row ≠ some (X.L u).db ∧ row ≠ some (X.L u).fb) : Fam X t w' := fun u hu => (h u hu).kept hg (h1 u hu).1 (h1 u hu).2.1 (h1 u hu).2.2

theorem Grp.step {X : Cx} (G : Good X) {u : Nat} {w w' : World} (g : Grp X w) (hu : u < X.N) (hg : w.grownBy w' (some (X.L u).sb)) : Grp X w' :=
  g.kept hg (fun q => G.ngb ⟨u, hu, by injection q with q; exact q.symm⟩) (fun q => G.nclb ⟨u, hu, by injection q with q; exact q.symm⟩) (fun q => G.npb ⟨u, hu, by injection q with q; exact q.symm⟩)

/-- Clause t matches d. -/
def has (X : Cx) (t d : Nat) : Bool := hasB (X.L t).n (X.D t) d
/-- A prohibited clause matches d. -/
def proh (X : Cx) (d : Nat) : Bool := (List.range (X.N - X.m)).any fun j => has X (X.m + j) d

theorem method_advance (a : Addr) (w : World) : (method 208 28 (.pointer (some a)) "example.com/kvasir/kvasir.advance").run Yba.prog w = .ok (59, .pointer (some a)) w := by kernel_rfl

set_option maxHeartbeats 1600000 in
set_option maxRecDepth 100000 in
theorem prohibited_any (X : Cx) (G : Good X) (d B : Nat) (w : World) (hg : Grp X w) (hf : Fam X d w) (hB : B ≤ w.heap.size) :
    Calls Yba.prog 30 #[.pointer (some ⟨X.gb, 0, none⟩), .int .i64 d] w fun e w' => e = .returned (.bool (proh X d)) ∧ Grp X w' ∧ Fam X d w' ∧ Frm B (isS X) w w' := by
  have g3 := hg.g3
  have HG : Hid (Grp X w ∧ Fam X d w) := ⟨hg, hf⟩
  obtain ⟨k, hk⟩ : ∃ k, k = X.N - X.m := ⟨_, rfl⟩
  rw [← hk] at g3
  have HK : Hid (k = X.N - X.m) := hk
  have hk3 : k ≤ 3 := by have := G.N3; omega
  clear hg hf hk
  go_enter Yba.func30, Yba.ntmps30
  go_wp2
  go_loopw [12] (fun vi wr => ∃ i : Nat, vi = .int .i64 i ∧ i ≤ k ∧ Grp X wr ∧ Fam X d wr ∧ Frm B (isS X) w wr ∧ ∀ j, j < i → has X (X.m + j) d = false) (fun vi _ => k - (intOf vi).toNat)
  case atStart => exact ⟨0, rfl, Nat.zero_le _, HG.out.1, HG.out.2, Frm.refl _ _ _, fun j hj => by omega⟩
  case round =>
    obtain ⟨i, rfl, hi, hgr, hfr, hFr, hno⟩ := hrel
    have HJ : Hid (Grp X wr ∧ Fam X d wr ∧ Frm B (isS X) w wr ∧ ∀ j, j < i → has X (X.m + j) d = false) := ⟨hgr, hfr, hFr, hno⟩
    clear hgr hfr hFr hno
    by_cases hik : i < k
    · have hii : (i : Int) < (k : Int) := by omega
      have hpa := HJ.out.1.pa (by have := HK.out; omega)
      have e0 := HJ.out.1.pr i (by have := HK.out; omega)
      unfold scv at e0
      have hmt := method_advance
      have huN : X.m + i < X.N := by have := HK.out; omega
      have hln := G.ln _ huN
      rw [hpa]
      cases hh : has X (X.m + i) d with
      | true =>
        have hd1 : (nextDoc (X.L (X.m + i)) (X.D (X.m + i)) d == (d : Int)) = true := by have := hh; unfold has hasB at this; unfold nextDoc; simpa using this
        have HH : Hid (has X (X.m + i) d = true) := hh
        go_wp2_with (go_at_call 59; refine (advance_at (X.L (X.m + i)) (X.D (X.m + i)) (X.S (X.m + i)) d wr (HJ.out.2.1 _ huN) (G.up _ huN) (by omega)).mono ?_; rintro z w1 ⟨rfl, hs1, hg1⟩)
        go_ret
        refine ⟨?_, HJ.out.1.step G huN hg1, HJ.out.2.1.step G huN hg1 (Tends.of hs1), HJ.out.2.2.1.grown hg1 (fun q e => Or.inr ⟨_, huN, by injection e with e; exact e.symm⟩) (Nat.le_trans hB HJ.out.2.2.1.size)⟩
        have : proh X d = true := by
          unfold proh
          rw [List.any_eq_true]
          exact ⟨i, by simp; have := HK.out; omega, HH.out⟩
        rw [this]; rfl
      | false =>
        have hd1 : (nextDoc (X.L (X.m + i)) (X.D (X.m + i)) d == (d : Int)) = false := by have := hh; unfold has hasB at this; unfold nextDoc; simpa using this
        have HH : Hid (has X (X.m + i) d = false) := hh
        go_wp2_with (go_at_call 59; refine (advance_at (X.L (X.m + i)) (X.D (X.m + i)) (X.S (X.m + i)) d wr (HJ.out.2.1 _ huN) (G.up _ huN) (by omega)).mono ?_; rintro z w1 ⟨rfl, hs1, hg1⟩)
        go_roundw
        case measure => simp [intOf]; omega
        case rel =>
          refine ⟨i + 1, rfl, by omega, HJ.out.1.step G huN hg1, HJ.out.2.1.step G huN hg1 (Tends.of hs1), HJ.out.2.2.1.grown hg1 (fun q e => Or.inr ⟨_, huN, by injection e with e; exact e.symm⟩) (Nat.le_trans hB HJ.out.2.2.1.size), fun j hj => ?_⟩
          by_cases e : j = i
          · subst e; exact HH.out
          · exact HJ.out.2.2.2 j (by omega)
    · have hii : ¬ (i : Int) < (k : Int) := by omega
      go_wp2
      go_ret
      refine ⟨?_, HJ.out.1, HJ.out.2.1, HJ.out.2.2.1⟩
      have : proh X d = false := by
        unfold proh
        rw [List.any_eq_false]
        intro j hj
        simp at hj
        rw [HJ.out.2.2.2 j (by have := HK.out; omega)]
        simp
      rw [this]; rfl
end Go.Proofs.Ybulkchng
