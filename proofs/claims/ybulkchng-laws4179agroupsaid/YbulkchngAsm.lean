/-
  A search put together.
-/
import Derived.Test.YbulkchngNewG
import Derived.Test.YbulkchngMove
namespace Go.Proofs.Ybulkchng
open Go.RowKit

/-- What the search is, apart from where it lies. -/
structure Sem (X : Cx) : Prop where
  m0 : 0 < X.m
  mN : X.m ≤ X.N
  N3 : X.N ≤ 3
  up : ∀ t, t < X.N → Up (X.L t).n (X.D t)
  dn : ∀ t, t < X.N → ∀ i, i < (X.L t).n → X.D t i < X.n
  sc : ∀ t, t < X.N → ∀ i, i < (X.L t).n → 1 ≤ X.S t i ∧ X.S t i ≤ 256
  ln : ∀ t, t < X.N → (X.L t).n ≤ 1024
  bo : ∀ t, X.boost t = if t = 1 then 2 else 1
  m2 : X.m ≤ 2
  n1 : X.n ≤ 1024
  ba : X.base < 65536
  li : 1 ≤ X.limit ∧ X.limit ≤ 12
  ss : ∀ t u, t < X.N → u < X.N → t ≠ u → (X.L t).sb ≠ (X.L u).sb
  sd : ∀ t u, t < X.N → u < X.N → (X.L t).sb ≠ (X.L u).db
  sf : ∀ t u, t < X.N → u < X.N → (X.L t).sb ≠ (X.L u).fb
  cs : ¬ isS X X.cb
  cd : ∀ u, u < X.N → (X.L u).db ≠ X.cb ∧ (X.L u).fb ≠ X.cb

theorem Good.make {X : Cx} (s : Sem X) (hg : X.gb ≠ X.cb ∧ ¬ isS X X.gb) (hc : X.clb ≠ X.cb ∧ ¬ isS X X.clb) (ho : X.ob ≠ X.cb ∧ ¬ isS X X.ob) (hp : X.pb ≠ X.cb ∧ ¬ isS X X.pb)
    (hw : ∀ k, Rd X k ∨ k = X.cb ∨ isS X k → k < X.wb) (h1 : X.wb < X.bb) (h2 : X.wb < X.rb) (h3 : X.wb < X.kb) (h4 : X.bb ≠ X.rb) (h5 : X.bb ≠ X.kb) (h6 : X.rb ≠ X.kb) : Good X where
  rc := fun k hk => by
    have hl := hw k (Or.inl hk)
    refine ⟨?_, by omega, by omega, by omega, by omega⟩
    rcases hk with rfl | rfl | rfl | rfl | ⟨u, hu, rfl | rfl⟩
    · exact hg.1
    · exact hc.1
    · exact ho.1
    · exact hp.1
    · exact (s.cd u hu).1
    · exact (s.cd u hu).2
  nd := by
    have := hw X.cb (Or.inr (Or.inl rfl))
    refine ⟨by omega, by omega, by omega, by omega, by omega, by omega, by omega, h4, h5, h6⟩
  m0 := s.m0
  mN := s.mN
  N3 := s.N3
  up := s.up
  dn := s.dn
  sc := s.sc
  ln := s.ln
  bo := s.bo
  m2 := s.m2
  n1 := s.n1
  ba := s.ba
  li := s.li
  ss := s.ss
  sd := s.sd
  sf := s.sf
  ngb := hg.2
  nclb := hc.2
  nob := ho.2
  npb := hp.2
  nwb := fun h => by have := hw _ (Or.inr (Or.inr h)); omega
  ncb := s.cs
  nbb := fun h => by have := hw _ (Or.inr (Or.inr h)); omega
  nrb := fun h => by have := hw _ (Or.inr (Or.inr h)); omega
  nkb := fun h => by have := hw _ (Or.inr (Or.inr h)); omega

/-- The optional clauses, copied. -/
structure Opt (X : Cx) (w : World) : Prop where
  o0 : ∀ t, t < X.m → w.cell? ⟨X.ob, t * 3, none⟩ = some (occ X t)
  o1 : ∀ t, t < X.m → w.cell? ⟨X.ob, t * 3 + 1, none⟩ = some (.float .f64 (fl (X.boost t)))
  o2 : ∀ t, t < X.m → w.cell? ⟨X.ob, t * 3 + 2, none⟩ = some (scv X t)

/-- The prohibited scorers' slice. -/
structure Pro (X : Cx) (w : World) : Prop where
  g3 : w.cell? ⟨X.gb, 3, none⟩ = some (.slice X.pa (X.N - X.m) X.pc)
  pa : X.m < X.N → X.pa = some ⟨X.pb, 0, none⟩
  pr : ∀ i, i < X.N - X.m → w.cell? ⟨X.pb, i, none⟩ = some (scv X (X.m + i))

theorem ready_make {X : Cx} {B : Nat} {w : World} (hM : w.cell? ⟨X.gb, 0, none⟩ = some (.slice (some ⟨X.clb, 0, none⟩) X.N X.cc)) (hC : Cls X w) (hO : Opt X w) (hP : Pro X w) (hW : MadeW X.m X.cb X.gb X.ob X.oc X.base X.wb X.bb X.rb X.kb w) (hlo : X.lo = 0) (hhi : X.hi = 0) (hc : Coll X.cb X.limit (.slice none 0 0) #[] 0 B w) :
    Ready X (.slice none 0 0) (.slice none 0 0) #[] 0 B w := by
  obtain ⟨hw, ⟨bs, hb1, hb2⟩, ⟨rs, hr1, hr2⟩, ⟨ks, hk1, hk2⟩⟩ := hW
  have c : ∀ i, w.cell? ⟨X.wb, i, none⟩ = _ := fun i => cell_of_row _ _ i _ 67 (0, 0) hw
  have ex : ∀ {b : Nat} {cs : Array Value} {t : TypeId}, w.heap[b]? = some (.cells cs t (0, 0)) → ∀ i, i < cs.size → ∃ x, w.cell? ⟨b, i, none⟩ = some x := fun {b cs t} h i hi => ⟨cs[i], by rw [cell_of_row _ _ i _ t (0, 0) h]; simp [hi]⟩
  refine ⟨⟨by rw [c]; rfl, by rw [c]; rfl, by rw [c]; rfl, by rw [c]; rfl, by rw [c, hlo]; rfl, by rw [c, hhi]; rfl, by rw [c]; rfl, by rw [c]; rfl, by rw [c]; rfl, hO.o0, hO.o1, hO.o2, fun i => frozen_of_row _ _ i _ 67 hw, fun i => frozen_of_row _ _ i _ 35 hb2, fun i => frozen_of_row _ _ i _ 3 hr2, fun i => frozen_of_row _ _ i _ 3 hk2⟩,
    ⟨hM, hP.g3, hP.pa, hC.k0, hC.k1, hC.k2, hP.pr⟩, hc, by rw [c]; rfl, ⟨_, by rw [c]; rfl⟩, ⟨_, by rw [c]; rfl⟩, fun t ht => ex hb2 t (by omega), fun t ht => ex hr2 t (by omega), fun t ht => ex hk2 t (by omega), Or.inl rfl⟩

theorem scTo_like {X Y : Cx} (h1 : X.m = Y.m) (h3 : X.L = Y.L) (h4 : X.D = Y.D) (h5 : X.S = Y.S) (h6 : X.boost = Y.boost) (d : Nat) : ∀ i, scTo X d i = scTo Y d i
  | 0 => rfl
  | i + 1 => by
    have e : part X d i = part Y d i := by unfold part has; rw [h1, h3, h4, h5, h6]
    show scTo X d i + part X d i = scTo Y d i + part Y d i
    rw [scTo_like h1 h3 h4 h5 h6 d i, e]
theorem offd_like {X Y : Cx} (h1 : X.m = Y.m) (h2 : X.N = Y.N) (h3 : X.L = Y.L) (h4 : X.D = Y.D) (h5 : X.S = Y.S) (h6 : X.boost = Y.boost) (h7 : X.base = Y.base) (t : Nat) : offd X t = offd Y t := by
  have e : ∀ d, sc X d = sc Y d := fun d => by unfold sc; rw [h2]; exact scTo_like h1 h3 h4 h5 h6 d _
  have e2 : ∀ d, isM X d = isM Y d := fun d => by unfold isM proh has; rw [h1, h2, h3, h4]
  unfold offd
  simp only [e, e2, h7]
end Go.Proofs.Ybulkchng
