/-
  (holding).plus and (acl).moveGrantor, walked over maps keyed by four pointers.
-/
import Derived.Test.YbulkchmsMaps
import Derived.Deep.LoopGhost
import Derived.Maps.RangeWalk
namespace Go.Proofs.Ybulkchms
open Go.RowKit
open Go.ChangeMaps (setBlock)

/-- A holding as a value. -/
def hv (x : Int × Int) : Value := .agg #[.int .u32 x.1, .int .u32 x.2]
/-- Two holdings together. -/
def orH (x y : Int × Int) : Int × Int := (bits .or .u32 x.1 y.1, bits .or .u32 x.2 y.2)
/-- A grantee's grants, as its map holds them. -/
def view (h : Nat → Option (Int × Int)) : Nat → Option Value := fun r => (h r).map hv
/-- h without r. -/
def del (h : Nat → Option (Int × Int)) (r : Nat) : Nat → Option (Int × Int) := fun j => if j = r then none else h j
/-- h with x at r. -/
def ins (h : Nat → Option (Int × Int)) (r : Nat) (x : Int × Int) : Nat → Option (Int × Int) := fun j => if j = r then some x else h j
/-- What moveGrantor makes of a grantee's grants. -/
def moved (f t : Nat) (h : Nat → Option (Int × Int)) : Nat → Option (Int × Int) :=
  match h f with
  | none => h
  | some x => ins (del h f) t (orH (((del h f) t).getD (0, 0)) x)

theorem upd_del (h : Nat → Option (Int × Int)) (r : Nat) : upd (view h) r none = view (del h r) := by
  funext j; unfold upd view del; split <;> simp
theorem upd_ins (h : Nat → Option (Int × Int)) (r : Nat) (x : Int × Int) : upd (view h) r (some (hv x)) = view (ins h r x) := by
  funext j; unfold upd view ins; split <;> simp

theorem zero55 (w : World) : (zeroValue 55).run Yba.prog w = .ok (hv (0, 0)) w := by kernel_rfl

/-- (holding).plus. -/
theorem plus_any (x y : Int × Int) (w : World) : Calls Yba.prog 7 #[hv x, hv y] w fun e w' => e = .returned (hv (orH x y)) ∧ w.grownBy w' none := by
  unfold hv orH
  go_enter Yba.func7, Yba.ntmps7
  go_wp2
  exact bodyPost_ret (v := hv (orH x y)) (by simp [results, Yba.results7, go_sem, hv, orH]) rfl ⟨rfl, (((World.grownBy_alloc w _ none).trans (World.grownBy_alloc _ _ none)).trans (World.grownBy_alloc _ _ none))⟩

/-! ### The outer map and the inner ones -/
structure OuterAt (R Ba : Nat) (im : Nat → Option Nat) (l : List Nat) (s : Nat → Nat) (c : Nat) (w : World) : Prop where
  at_ : MapAt R Ba l (fun g => .map (im g)) s c w
  good : Good l s c
  iff : ∀ g, g < 4 → (g ∈ l ↔ (im g).isSome = true)

def Inner (R : Nat) (im : Nat → Option Nat) (h : Nat → Nat → Option (Int × Int)) (w : World) : Prop := ∀ g, g < 4 → ∀ b, im g = some b → MapV R b (view (h g)) w

/-- What is asked of the blocks. -/
structure Apart (Ba : Nat) (im : Nat → Option Nat) : Prop where
  inj : ∀ g, g < 4 → ∀ g', g' < 4 → ∀ b, im g = some b → im g' = some b → g = g'
  outer : ∀ g, g < 4 → im g ≠ some Ba

/-- Nothing of w has turned but the inner maps. -/
structure Kept (im : Nat → Option Nat) (w w' : World) : Prop where
  os : w'.os = w.os
  tape : w'.tape = w.tape
  output : w'.output = w.output
  size : w.heap.size ≤ w'.heap.size
  block : ∀ k, k < w.heap.size → (∀ g, g < 4 → im g ≠ some k) → w'.heap[k]? = w.heap[k]?

theorem Kept.refl (im : Nat → Option Nat) (w : World) : Kept im w w := ⟨rfl, rfl, rfl, Nat.le_refl _, fun _ _ _ => rfl⟩
theorem Kept.trans {im : Nat → Option Nat} {a b c : World} (h : Kept im a b) (k : Kept im b c) : Kept im a c :=
  ⟨k.os.trans h.os, k.tape.trans h.tape, k.output.trans h.output, Nat.le_trans h.size k.size, fun i hi hn => (k.block i (Nat.lt_of_lt_of_le hi h.size) hn).trans (h.block i hi hn)⟩
theorem Kept.grown {im : Nat → Option Nat} {a b c : World} (h : Kept im a b) {row : Option Nat} (hg : b.grownBy c row) (hr : ∀ k, row = some k → a.heap.size ≤ k ∨ ∃ g, g < 4 ∧ im g = some k) : Kept im a c :=
  ⟨hg.os.trans h.os, hg.tape.trans h.tape, hg.output.trans h.output, Nat.le_trans h.size hg.size, fun i hi hn => (hg.block i (Nat.lt_of_lt_of_le hi h.size) (fun e => by
    rcases hr i e.symm with h1 | ⟨g, h4, h1⟩
    · omega
    · exact hn g h4 h1)).trans (h.block i hi hn)⟩

theorem OuterAt.kept {R Ba : Nat} {im : Nat → Option Nat} {l : List Nat} {s : Nat → Nat} {c : Nat} {w w' : World} (h : OuterAt R Ba im l s c w) (hA : Apart Ba im) (hk : Kept im w w') : OuterAt R Ba im l s c w' :=
  ⟨(hk.block Ba (Array.getElem?_eq_some_iff.1 h.at_).1 hA.outer).trans h.at_, h.good, h.iff⟩

/-- A role's block is no map. -/
theorem Roles.apart {R : Nat} {im : Nat → Option Nat} {h : Nat → Nat → Option (Int × Int)} {w : World} (hR : Roles R w) (hI : Inner R im h w) (i : Nat) (hi : i < 3) : ∀ g, g < 4 → im g ≠ some (R + i) := fun g hg e => by
  obtain ⟨l, val, s, c, hm, _⟩ := hI g hg _ e
  obtain ⟨cs, hc⟩ := hR i hi
  unfold MapAt at hm
  rw [hm] at hc
  cases hc
theorem Roles.keptK {R : Nat} {im : Nat → Option Nat} {h : Nat → Nat → Option (Int × Int)} {w w' : World} (hR : Roles R w) (hI : Inner R im h w) (hk : Kept im w w') : Roles R w' := fun i hi => by
  obtain ⟨c, hc⟩ := hR i hi
  exact ⟨c, (hk.block _ (Array.getElem?_eq_some_iff.1 hc).1 (hR.apart hI i hi)).trans hc⟩

theorem Inner.grown {R Ba : Nat} {im : Nat → Option Nat} {h h' : Nat → Nat → Option (Int × Int)} {w w' : World} {row : Option Nat} (hI : Inner R im h w) (_hA : Apart Ba im) (hg : w.grownBy w' row) (hrow : ∀ g, g < 4 → ∀ b, im g = some b → row ≠ some b ∧ h' g = h g ∨ MapV R b (view (h' g)) w') : Inner R im h' w' := fun g h4 b e => by
  rcases hrow g h4 b e with ⟨h1, h2⟩ | h1
  · rw [h2]; exact (hI g h4 b e).kept hg h1
  · exact h1

/-! ### The range over the outer map -/
section
variable {ops : Array Oper} {rest : List Oper} {o : Oper} {a : Act} {Q : Exit → Act → World → Prop} {w : World}

theorem left_mem {R : Nat} {im : Nat → Option Nat} {l D : List Nat} {s : Nat → Nat} {e : MapEntry} (h : e ∈ (leftOf (ents R l (fun g => .map (im g)) s).toArray (D.map s).toArray).toList) :
    ∃ g, g ∈ l ∧ g ∉ D ∧ e = { key := kp R g, val := .map (im g), born := s g } := by
  obtain ⟨h1, h2⟩ := mem_left h
  simp only [ents, List.mem_map] at h1
  obtain ⟨g, hg, rfl⟩ := h1
  refine ⟨g, hg, fun hd => ?_, rfl⟩
  simp at h2
  exact h2 g hd rfl

theorem left_none {R : Nat} {im : Nat → Option Nat} {l D : List Nat} {s : Nat → Nat} {c : Nat} (hgd : Good l s c) (hD : ∀ g ∈ D, g ∈ l) (h : (leftOf (ents R l (fun g => .map (im g)) s).toArray (D.map s).toArray).size = 0) : ∀ g ∈ l, g ∈ D := fun g hg => by
  have he : leftOf (ents R l (fun g => .map (im g)) s).toArray (D.map s).toArray = #[] := Array.eq_empty_of_size_eq_zero h
  unfold leftOf at he
  rw [Array.filter_eq_empty_iff] at he
  have := he { key := kp R g, val := .map (im g), born := s g } (by simp [ents]; exact ⟨g, hg, rfl, rfl, rfl⟩)
  simp at this
  obtain ⟨g', hg', e⟩ := this
  rw [← hgd.inj g' (hD g' hg') g hg e]; exact hg'

theorem at_next' (hg : o.guard = none) (it : Operand) (hop : o.op = Op.next it false) (R Ba H : Nat) (im : Nat → Option Nat) (l D : List Nat) (s : Nat → Nat) (c : Nat) (hit : a.eval it = .pointer (some ⟨H, 0, none⟩))
    (hr : w.heap[H]? = some (.mapIter (some Ba) c (D.map s).toArray c)) (hO : OuterAt R Ba im l s c w) (hD : ∀ g ∈ D, g ∈ l)
    (hDone : (∀ g ∈ l, g ∈ D) → wpList Yba.prog ops Q rest (a.put o.dst (.tuple #[.bool false])) w)
    (hMore : ∀ g b w', g < 4 → g ∈ l → g ∉ D → im g = some b → w.grownBy w' (some H) → w'.heap.size = w.heap.size → w'.heap[H]? = some (.mapIter (some Ba) c ((D ++ [g]).map s).toArray c) →
      (Instr.entry (.pointer (some ⟨H, 0, none⟩))).run Yba.prog w' = .ok (.tuple #[kp R g, .map (some b)]) w' → wpList Yba.prog ops Q rest (a.put o.dst (.tuple #[.bool true, kp R g, .map (some b)])) w') :
    wpList Yba.prog ops Q (o :: rest) a w := by
  refine wpList_plain hg fun K' hK' => ?_
  have hm := hO.at_
  unfold MapAt at hm
  have hBH : Ba ≠ H := fun e => by rw [e, hr] at hm; cases hm
  have hlt : H < w.heap.size := (Array.getElem?_eq_some_iff.1 hr).1
  unfold Oper.wp
  rcases run_next_at (P := Yba.prog) w o.type H Ba c c (D.map s).toArray _ c hr hm (by
      intro x hx; simp only [ents, List.mem_map] at hx; obtain ⟨g, hgl, rfl⟩ := hx; exact hO.good.born g hgl) (Nat.le_refl _) with ⟨h0, hrun⟩ | ⟨e, he, w1, hw1, hrun⟩
  · simp [execOp, hop, hit, hrun, Result.andThen]
    exact hK' _ _ (hDone (left_none hO.good hD h0))
  · obtain ⟨g, hgl, hgD, rfl⟩ := left_mem he
    obtain ⟨b, hb⟩ := Option.isSome_iff_exists.1 ((hO.iff g (hO.good.lt g hgl)).1 hgl)
    simp only [hb] at hrun
    have hh1 : w1.heap = w.heap := by rcases hw1 with rfl | rfl <;> rfl
    have hgr : w.grownBy (setBlock w1 H (.mapIter (some Ba) c ((D.map s).toArray.push (s g)) c)) (some H) := by
      have g0 : w.grownBy w1 (some H) := by rcases hw1 with rfl | rfl <;> exact ⟨rfl, rfl, rfl, Nat.le_refl _, fun _ _ _ => rfl⟩
      exact g0.trans (grown_set _)
    have hsz : (setBlock w1 H (.mapIter (some Ba) c ((D.map s).toArray.push (s g)) c)).heap.size = w.heap.size := by simp [setBlock, hh1]
    have hit' : (setBlock w1 H (.mapIter (some Ba) c ((D.map s).toArray.push (s g)) c)).heap[H]? = some (.mapIter (some Ba) c ((D.map s).toArray.push (s g)) c) := by simp [setBlock, hh1, hlt]
    generalize setBlock w1 H (.mapIter (some Ba) c ((D.map s).toArray.push (s g)) c) = w2 at hrun hgr hsz hit'
    simp [execOp, hop, hit, hrun, Result.andThen]
    refine hK' _ _ (hMore g b _ (hO.good.lt g hgl) hgl hgD hb hgr hsz ?_ ?_)
    · rw [hit']; simp
    · have hm' : w2.heap[Ba]? = some (.map (ents R l (fun g => .map (im g)) s).toArray c) :=
        (hgr.block Ba (Array.getElem?_eq_some_iff.1 hm).1 (by simpa using hBH)).trans hm
      have := run_entry_at (P := Yba.prog) _ H Ba c (D.map s).toArray _ c { key := kp R g, val := .map (im g), born := s g } hit' hm' (by simp [ents]; exact ⟨g, hgl, rfl, rfl, rfl⟩) (by
        simp only [ents, List.map_map]
        show (l.map s).Nodup
        rw [List.nodup_iff_pairwise_ne, List.pairwise_map]
        exact (List.nodup_iff_pairwise_ne.1 hO.good.nodup).imp_of_mem fun ha hb hne e => hne (hO.good.inj _ ha _ hb e))
      rw [this, hb]
end
end Go.Proofs.Ybulkchms
