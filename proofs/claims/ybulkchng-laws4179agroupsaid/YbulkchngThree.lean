/-
  The search of three clauses.
-/
import Derived.Test.YbulkchngFind
namespace Go.Proofs.Ybulkchng
open Go.RowKit Go.Sort

def sel {α : Type} (x y z : α) : Nat → α
  | 0 => x
  | 1 => y
  | _ => z

/-- One clause's documents and scores, laid in w; blocks below H, or D where there are none. -/
structure Laid (l : List (Nat × Nat)) (da fa : Option Addr) (db fb n H D : Nat) (w : World) : Prop where
  up : l.Pairwise (fun x y => x.1 < y.1)
  lt : ∀ x ∈ l, x.1 < n
  sc : ∀ x ∈ l, 1 ≤ x.2 ∧ x.2 ≤ 256
  len : l.length ≤ 1024
  d1 : 0 < l.length → da = some ⟨db, 0, none⟩ ∧ db < H
  s1 : 0 < l.length → fa = some ⟨fb, 0, none⟩ ∧ fb < H
  d2 : l.length = 0 → db = D
  s2 : l.length = 0 → fb = D
  d3 : ∀ j u, (l.map fun x => Value.int .i64 (x.1 : Int))[j]? = some u → w.cell? ⟨db, j, none⟩ = some u
  s3 : ∀ j u, (l.map fun x => Value.float .f64 (fl x.2))[j]? = some u → w.cell? ⟨fb, j, none⟩ = some u

theorem Laid.kept {l : List (Nat × Nat)} {da fa : Option Addr} {db fb n H D : Nat} {w w' : World} (h : Laid l da fa db fb n H D w) (hg : w.grownBy w' none) : Laid l da fa db fb n H D w' :=
  ⟨h.up, h.lt, h.sc, h.len, h.d1, h.s1, h.d2, h.s2, fun j u hu => hg.cell (h.d3 j u hu) (by simp), fun j u hu => hg.cell (h.s3 j u hu) (by simp)⟩
theorem Laid.cd {l : List (Nat × Nat)} {da fa : Option Addr} {db fb n H D : Nat} {w : World} (h : Laid l da fa db fb n H D w) : ∀ i, i < l.length → w.cell? ⟨db, i, none⟩ = some (.int .i64 (Dl l i : Int)) := fun i hi => h.d3 i _ (by simp [Dl, hi])
theorem Laid.cs {l : List (Nat × Nat)} {da fa : Option Addr} {db fb n H D : Nat} {w : World} (h : Laid l da fa db fb n H D w) : ∀ i, i < l.length → w.cell? ⟨fb, i, none⟩ = some (.float .f64 (fl (Sl l i))) := fun i hi => h.s3 i _ (by simp [Sl, hi])

theorem Built.laid {B n : Nat} {vd vs : Value} {l : List (Nat × Nat)} {w : World} (h : Built B vd vs l n w) (D : Nat) : ∃ da db dc fa fb fc, vd = .slice da l.length dc ∧ vs = .slice fa l.length fc ∧ Laid l da fa db fb n w.heap.size D w := by
  obtain ⟨da, db, dc, e1, d1, d2, d3⟩ := own_parts h.d D
  obtain ⟨fa, fb, fc, e2, s1, s2, s3⟩ := own_parts h.s D
  exact ⟨da, db, dc, fa, fb, fc, e1, e2, h.up, h.lt, h.sc, h.len, fun q => ⟨(d1 q).1, (d1 q).2.2⟩, fun q => ⟨(s1 q).1, (s1 q).2.2⟩, d2, s2, d3, s3⟩

/-- The search of three clauses, the third prohibited. -/
def tri (sb : Nat) (la lb lp : List (Nat × Nat)) (a b p : Option Addr × Option Addr × Nat × Nat × Nat × Nat) (cb base limit n : Nat) : Cx :=
  { m := 2, N := 3, L := sel ⟨sb, a.2.2.1, a.2.2.2.1, a.1, a.2.1, la.length, a.2.2.2.2.1, a.2.2.2.2.2⟩ ⟨sb + 1, b.2.2.1, b.2.2.2.1, b.1, b.2.1, lb.length, b.2.2.2.2.1, b.2.2.2.2.2⟩ ⟨sb + 1 + 1, p.2.2.1, p.2.2.2.1, p.1, p.2.1, lp.length, p.2.2.2.2.1, p.2.2.2.2.2⟩,
    D := sel (Dl la) (Dl lb) (Dl lp), S := sel (Sl la) (Sl lb) (Sl lp), boost := fun t => if t = 1 then 2 else 1, gb := 0, clb := sb + 1 + 1 + 1, cc := 3, ob := 0, oc := 0, pa := none, pb := 0, pc := 0, wb := 0, cb := cb, bb := 0, rb := 0, kb := 0, base := base, limit := limit, n := n, lo := 0, hi := 0 }

theorem isM_tri (sb : Nat) (la lb lp : List (Nat × Nat)) (a b p : Option Addr × Option Addr × Nat × Nat × Nat × Nat) (cb base limit n d : Nat) :
    isM (tri sb la lb lp a b p cb base limit n) d = ((hasB la.length (Dl la) d || hasB lb.length (Dl lb) d) && !hasB lp.length (Dl lp) d) := by
  have e : proh (tri sb la lb lp a b p cb base limit n) d = hasB lp.length (Dl lp) d := by
    show ((List.range 1).any fun j => has _ (2 + j) d) = _
    simp [List.range_succ]; rfl
  unfold isM
  rw [e]
  show (((List.range 2).any fun t => has _ t d) && _) = _
  simp [List.range_succ]; rfl

theorem sc_tri (sb : Nat) (la lb lp : List (Nat × Nat)) (a b p : Option Addr × Option Addr × Nat × Nat × Nat × Nat) (cb base limit n d : Nat) :
    sc (tri sb la lb lp a b p cb base limit n) d = scoreIn la d + 2 * scoreIn lb d := by
  have p0 : part (tri sb la lb lp a b p cb base limit n) d 0 = scoreIn la d := by
    unfold part
    by_cases h : hasB la.length (Dl la) d = true
    · rw [if_pos (show 0 < (tri sb la lb lp a b p cb base limit n).m ∧ has (tri sb la lb lp a b p cb base limit n) 0 d = true from ⟨by show 0 < 2; omega, h⟩)]
      unfold scoreIn
      rw [if_pos h]
      exact Nat.one_mul _
    · rw [if_neg (fun q => h q.2)]
      unfold scoreIn
      rw [if_neg h]
  have p1 : part (tri sb la lb lp a b p cb base limit n) d 1 = 2 * scoreIn lb d := by
    unfold part
    by_cases h : hasB lb.length (Dl lb) d = true
    · rw [if_pos (show 1 < (tri sb la lb lp a b p cb base limit n).m ∧ has (tri sb la lb lp a b p cb base limit n) 1 d = true from ⟨by show 1 < 2; omega, h⟩)]
      unfold scoreIn
      rw [if_pos h]
      rfl
    · rw [if_neg (fun q => h q.2)]
      unfold scoreIn
      rw [if_neg h]
  have p2 : part (tri sb la lb lp a b p cb base limit n) d 2 = 0 := by
    unfold part
    rw [if_neg (by intro q; have : 2 < 2 := q.1; omega)]
  show ((0 + part _ d 0) + part _ d 1) + part _ d 2 = _
  rw [p0, p1, p2]; omega
end Go.Proofs.Ybulkchng
