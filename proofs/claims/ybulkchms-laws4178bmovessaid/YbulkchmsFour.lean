/-
  The law's own move of a grantor, on its tables, and the two looks at the end: the plain part.
-/
import Derived.Test.YbulkchmsHad
namespace Go.Proofs.Ybulkchms
open Go.RowKit

/-- The tables after k rounds of the law's own move. -/
structure Rows4 (pr : Nat → Nat → Bool) (va : Nat → Nat → Int × Int) (f t k : Nat) (pr' : Nat → Nat → Bool) (va' : Nat → Nat → Int × Int) : Prop where
  done : ∀ g, g < k → ∀ r, hmOf pr' va' g r = moved f t (hmOf pr va g) r
  left : ∀ g, k ≤ g → ∀ r, pr' g r = pr g r ∧ va' g r = va g r

theorem Rows4.start (pr : Nat → Nat → Bool) (va : Nat → Nat → Int × Int) (f t : Nat) : Rows4 pr va f t 0 pr va := ⟨fun g h => absurd h (by omega), fun _ _ _ => ⟨rfl, rfl⟩⟩

/-- The tables after one round that moves, o being what the grantor t has already. -/
def stepP (pr : Nat → Nat → Bool) (k f t : Nat) : Nat → Nat → Bool := upd2 (upd2 pr k f false) k t true
def stepV (va : Nat → Nat → Int × Int) (k f t : Nat) (x : Int × Int) : Nat → Nat → Int × Int := upd2 (upd2 va k f (0, 0)) k t x
def oldV (pr : Nat → Nat → Bool) (va : Nat → Nat → Int × Int) (k f t : Nat) : Int × Int := if upd2 pr k f false k t then upd2 va k f (0, 0) k t else (0, 0)

variable {pr : Nat → Nat → Bool} {va : Nat → Nat → Int × Int} {f t k : Nat} {pr' : Nat → Nat → Bool} {va' : Nat → Nat → Int × Int}
theorem Rows4.no (h : Rows4 pr va f t k pr' va') (hp : pr' k f = false) : Rows4 pr va f t (k + 1) pr' va' := by
  refine ⟨fun g hg r => ?_, fun g hg r => h.left g (by omega) r⟩
  by_cases e : g < k
  · exact h.done g e r
  · obtain rfl : g = k := by omega
    have h1 := (h.left g (by omega) f).1
    have h2 := h.left g (by omega) r
    rw [hp] at h1
    unfold moved hmOf
    simp [← h1, h2.1, h2.2]

theorem Rows4.yes (h : Rows4 pr va f t k pr' va') (hp : pr' k f = true) : Rows4 pr va f t (k + 1) (stepP pr' k f t) (stepV va' k f t (orH (oldV pr' va' k f t) (va' k f))) := by
  refine ⟨fun g hg r => ?_, fun g hg r => ?_⟩
  · by_cases e : g < k
    · have : hmOf (stepP pr' k f t) (stepV va' k f t (orH (oldV pr' va' k f t) (va' k f))) g r = hmOf pr' va' g r := by
        unfold hmOf stepP stepV upd2
        have : ¬ g = k := by omega
        simp [this]
      rw [this]; exact h.done g e r
    · obtain rfl : g = k := by omega
      have hf := h.left g (by omega) f
      have ht := h.left g (by omega) t
      have hr := h.left g (by omega) r
      rw [hp] at hf
      unfold moved hmOf
      rw [← hf.1]
      simp only [if_true]
      unfold ins del stepP stepV oldV upd2
      by_cases e1 : r = t
      · subst e1
        by_cases e2 : r = f
        · subst e2; simp [hf.2]
        · simp only [and_true, if_true, e2, and_false, if_false, ← ht.1, ← ht.2, ← hf.2]
          cases hpt : pr' g r <;> simp
      · by_cases e2 : r = f
        · subst e2; simp [e1]
        · simp [e1, e2, hr.1, hr.2]
  · have : ¬ g = k := by omega
    have := h.left g (by omega) r
    unfold stepP stepV upd2
    simp [*]

/-- How many grants of one grantee the first m grantors make. -/
theorem flags_done (pr : Nat → Nat → Bool) (k : Nat) : flagsAt pr (k + 1) 0 k = had pr k := by unfold flagsAt; rw [if_pos (by omega)]

section
variable {w : World} {pr : Nat → Nat → Bool} {va : Nat → Nat → Int × Int} {im : Nat → Option Nat} {hm : Nat → Nat → Option (Int × Int)} {W W' : World}
/-- What a move of a grantor leaves of the state. -/
theorem MW.kept {hm' : Nat → Nat → Option (Int × Int)} (h : MW w pr va im hm W) (hk : Kept im W W') (hI : Inner w.heap.size im hm' W') : MW w pr va im hm' W' := by
  have hlow := h.maps.low
  have hs := h.size
  have nb : ∀ k, k ≤ w.heap.size + 1 + 1 + 1 + 1 + 1 + 1 → ∀ g, g < 4 → im g ≠ some k := fun k hk' g h4 e => by have := hlow g h4 k e; omega
  have blk : ∀ k, k ≤ w.heap.size + 1 + 1 + 1 + 1 + 1 + 1 → W'.heap[k]? = W.heap[k]? := fun k hk' => hk.block k (by omega) (nb k hk')
  have hG := h.grid
  refine ⟨h.lay, ⟨h.roles.keptK h.maps.inner hk, fun i hi => ?_, ⟨hk.os.trans h.below.os, hk.tape.trans h.below.tape, hk.output.trans h.below.output, Nat.le_trans h.below.size hk.size, fun k hk' => (blk k (by omega)).trans (h.below.block k hk')⟩, ?_⟩, ⟨fun g r a b => ?_, fun g r a b => ?_, fun g r a b => ?_, fun i => ?_, fun i => ?_⟩, ⟨?_, hI, h.maps.apart, h.maps.low⟩⟩
  · rw [World.cell?_of_block (blk _ (by simp))]; exact h.arr i hi
  · have := hk.size; omega
  · rw [World.cell?_of_block (blk _ (by simp))]; exact hG.p g r a b
  · rw [World.cell?_of_block (blk _ (by simp))]; exact hG.v1 g r a b
  · rw [World.cell?_of_block (blk _ (by simp))]; exact hG.v2 g r a b
  · rw [World.frozen?_of_block (blk _ (by simp))]; exact hG.pf i
  · rw [World.frozen?_of_block (blk _ (by simp))]; exact hG.vf i
  · obtain ⟨l, val, s, c, hat, r1, r2⟩ := h.outer
    exact ⟨l, val, s, c, by unfold MapAt at hat ⊢; rw [blk _ (by simp)]; exact hat, r1, r2⟩
theorem Flags.keptK {Hb : Nat} {c : Nat → Bool} (hF : Flags Hb c W) (h : MW w pr va im hm W) (hk : Kept im W W') : Flags Hb c W' := by
  obtain ⟨cs, ty, fz, hb⟩ := hF.block
  have e : W'.heap[Hb]? = W.heap[Hb]? := hk.block Hb hF.lt fun g h4 e => by
    obtain ⟨l, val, s, c', hat, _⟩ := h.maps.inner g h4 Hb e
    unfold MapAt at hat
    rw [hb] at hat; cases hat
  exact ⟨fun j hj => by rw [World.cell?_of_block e]; exact hF.cell j hj, fun j => by rw [World.frozen?_of_block e]; exact hF.frozen j⟩
/-- The grants, told by the tables again. -/
theorem MW.told {p : Nat → Nat → Bool} {v : Nat → Nat → Int × Int} (h : MW w p v im hm W) (e : ∀ g, g < 4 → ∀ r, hmOf p v g r = hm g r) : MW w p v im (hmOf p v) W :=
  ⟨h.lay, h.base, Mid.grid h, ⟨h.maps.outer, fun g h4 b eb => by rw [show hmOf p v g = hm g from funext (e g h4)]; exact h.maps.inner g h4 b eb, h.maps.apart, h.maps.low⟩⟩

theorem count_outer (HT : ∀ g, g < 4 → ((im g).isSome = true ↔ ∃ r, r < 4 ∧ pr g r = true)) : count (fun g => (im g).map fun b => .map (some b)) = cntTo (had pr) 4 := by
  refine count_cnt fun i hi => ?_
  rw [Option.isSome_map]
  exact Bool.eq_iff_iff.2 ((HT i hi).trans (had_iff pr i).symm)
theorem had_some (HT : ∀ g, g < 4 → ((im g).isSome = true ↔ ∃ r, r < 4 ∧ pr g r = true)) (g : Nat) (hg : g < 4) : had pr g = (im g).isSome := Bool.eq_iff_iff.2 ((had_iff pr g).trans (HT g hg).symm)
theorem count_inner (p : Nat → Nat → Bool) (v : Nat → Nat → Int × Int) (g : Nat) : count (view (hmOf p v g)) = cntTo (p g) 4 := by
  refine count_cnt fun i hi => ?_
  unfold view hmOf
  cases p g i <;> rfl
end

theorem at_size' {ops : Array Oper} {rest : List Oper} {o : Oper} {a : Act} {Q : Exit → Act → World → Prop} {w : World} (hg : o.guard = none) (m : Operand) (T : TypeId) (hop : o.op = Op.call { callee := Callee.builtin Builtin.len, args := #[m], argTypes := #[T] }) {E : TypeId} (hT : Yba.prog.underlying T = some (.map 27 E)) (R b : Nat) (f : Nat → Option Value)
    (hm : a.eval m = .map (some b)) (h : MapV R b f w) (n : Nat) (hn : count f = n) (hK : wpList Yba.prog ops Q rest (a.put o.dst (.int .i64 n)) w) : wpList Yba.prog ops Q (o :: rest) a w :=
  at_size hg m T hop hT R b f hm h (by rw [hn]; exact hK)

/-- '!=' of a holding with itself. -/
theorem neq_hv (x y : Int) (w : World) : (binOp .neq 55 (.agg #[.int .u32 x, .int .u32 y]) (.agg #[.int .u32 x, .int .u32 y])).run Yba.prog w = .ok (.bool false) w := by
  have u29 := Yba.underlying29
  have a29 := Yba.isAgg29
  have z29 := Yba.sizeOf29
  have hS : Yba.prog.underlying 55 = some (.struct (Yba.prog.fieldsOf 55)) := by kernel_rfl
  have hp : Yba.prog.stoodInHeld 55 = false := by kernel_rfl
  rw [run_neq_struct, show (10000 : Nat) = 9999 + 1 from rfl, run_equalIn_agg w 9999 55 _ _ hS hp]
  simp only [Program.fieldsOf, Yba.underlying55]
  go_simp
end Go.Proofs.Ybulkchms
