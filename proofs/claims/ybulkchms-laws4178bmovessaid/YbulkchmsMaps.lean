/-
  Maps keyed by four pointers (nil and three roles): the operations, run.
-/
import Derived.Test.YbulkchmsRows
import Derived.WalkKit
import Derived.WalkSpells
import Derived.Below
import Derived.Laws.Rows
import Derived.Laws.Pointers
import Derived.LaidEqlPtr
import Derived.MapKept
import Derived.Maps.RangeRun
namespace Go.Proofs.Ybulkchms
open Go.RowKit
open Go.ChangeMaps (setBlock)

/-- The i-th key: PUBLIC (nil), or the role that lies in block R + (i - 1). -/
def ka (R i : Nat) : Option Addr := if i = 0 then none else some ⟨R + (i - 1), 0, none⟩
def kp (R i : Nat) : Value := .pointer (ka R i)

/-- The three roles' blocks are plain. -/
def Roles (R : Nat) (w : World) : Prop := ∀ i, i < 3 → ∃ c, w.heap[R + i]? = some (.cells c 50)

theorem Roles.kept {R : Nat} {w w' : World} {row : Option Nat} (h : Roles R w) (hg : w.grownBy w' row) (hr : ∀ i, i < 3 → row ≠ some (R + i)) : Roles R w' := fun i hi => by
  obtain ⟨c, hc⟩ := h i hi
  exact ⟨c, (hg.block _ (Array.getElem?_eq_some_iff.1 hc).1 (fun e => hr i hi e.symm)).trans hc⟩

theorem info50 : ∃ j, Yba.prog.info? 50 = some j ∧ j.size ≠ 0 := by
  have h : (Yba.prog.info? 50).map (·.size) = some 9 := by kernel_rfl
  obtain ⟨j, hj, hs⟩ := Option.map_eq_some_iff.1 h
  exact ⟨j, hj, by omega⟩

theorem equalIn_keys {R : Nat} {w : World} (h : Roles R w) (i j : Nat) (hi : i < 4) (hj : j < 4) (d : Nat) : (Op.equalIn (d + 1) 27 (.pointer (ka R i)) (.pointer (ka R j))).run Yba.prog w = .ok (decide (i = j)) w := by
  obtain ⟨t, ht, hs⟩ := info50
  have hu := Yba.underlying27
  by_cases hi0 : i = 0
  · by_cases hj0 : j = 0
    · subst hi0; subst hj0; simp [ka, Op.equalIn, run_underlying hu]
    · subst hi0
      have e0 : ¬ 0 = j := fun e => hj0 e.symm
      simp [ka, Op.equalIn, run_underlying hu, hj0, e0]
  · by_cases hj0 : j = 0
    · subst hj0; simp [ka, Op.equalIn, run_underlying hu, hi0]
    · by_cases e : i = j
      · subst e
        simp [ka, hi0, Op.equalIn, run_underlying hu, sizeOf, typeInfo, ht, run_sameAddr_same]
      · obtain ⟨c1, h1⟩ := h (i - 1) (by omega)
        obtain ⟨c2, h2⟩ := h (j - 1) (by omega)
        have hne : (⟨R + (i - 1), 0, none⟩ : Addr) ≠ ⟨R + (j - 1), 0, none⟩ := fun e' => by
          have := congrArg Addr.block e'; simp at this; omega
        simp [ka, hi0, hj0, e, Op.equalIn, run_underlying hu, sizeOf, typeInfo, ht, hs, run_sameAddr_other w hne h1 h2]
theorem equal_keys {R : Nat} {w : World} (h : Roles R w) (i j : Nat) (hi : i < 4) (hj : j < 4) : (Op.equal 27 (kp R i) (kp R j)).run Yba.prog w = .ok (decide (i = j)) w :=
  equalIn_keys h i j hi hj 9999

/-- The entries of a map that holds the keys l. -/
def ents (R : Nat) (l : List Nat) (val : Nat → Value) (s : Nat → Nat) : List MapEntry := l.map fun i => { key := kp R i, val := val i, born := s i }

theorem find_keys {R : Nat} {w : World} (h : Roles R w) (val : Nat → Value) (s : Nat → Nat) (i : Nat) (hi : i < 4) : ∀ (l : List Nat) (k : Nat), (∀ j ∈ l, j < 4) →
    (Instr.findAsking 27 (kp R i) (ents R l val s) k).run Yba.prog w = .ok (if i ∈ l then some (k + l.idxOf i, val i) else none) w
  | [], k, _ => by simp [ents, Instr.findAsking]
  | j :: l, k, hl => by
    have hj := hl j (by simp)
    have ih := find_keys h val s i hi l (k + 1) (fun x hx => hl x (by simp [hx]))
    simp only [ents, List.map_cons, Instr.findAsking, Sem.run_bind, equal_keys h i j hi hj, Result.andThen_ok]
    by_cases e : i = j
    · subst e
      simp
    · simp only [e, decide_false, Bool.false_eq_true, if_false]
      unfold ents at ih
      rw [ih]
      have e' : (j == i) = false := by simpa using fun h : j = i => e h.symm
      by_cases hm : i ∈ l
      · simp [hm, e, List.idxOf_cons, e']; omega
      · simp [hm, e]

theorem find_key {R : Nat} {w : World} (h : Roles R w) (val : Nat → Value) (s : Nat → Nat) (i : Nat) (hi : i < 4) (l : List Nat) (hl : ∀ j ∈ l, j < 4) :
    (Instr.findKey 27 (kp R i) (ents R l val s)).run Yba.prog w = .ok (if i ∈ l then some (l.idxOf i, val i) else none) w := by
  have hf := find_keys h val s i hi l 0 hl
  unfold Instr.findKey
  rw [Sem.run_bind, run_underlying Yba.underlying27, Result.andThen_ok]
  cases l with
  | nil => simp [ents, Instr.findNow]
  | cons j l =>
    have : Instr.findNow (.pointer 50) (kp R i) (ents R (j :: l) val s) 0 = none := by
      simp [ents, Instr.findNow, kp, Instr.sameNow]
    rw [this]
    simpa using hf

/-! ### A map block, as a view -/
/-- The keys are distinct and among the four; the stamps are distinct and lie ahead of the clock. -/
structure Good (l : List Nat) (s : Nat → Nat) (c : Nat) : Prop where
  nodup : l.Nodup
  lt : ∀ i ∈ l, i < 4
  born : ∀ i ∈ l, s i < c
  inj : ∀ i ∈ l, ∀ j ∈ l, s i = s j → i = j

def MapAt (R b : Nat) (l : List Nat) (val : Nat → Value) (s : Nat → Nat) (c : Nat) (w : World) : Prop := w.heap[b]? = some (.map (ents R l val s).toArray c)

/-- Block b is a map that holds f i at key i. -/
def MapV (R b : Nat) (f : Nat → Option Value) (w : World) : Prop :=
  ∃ l val s c, MapAt R b l val s c w ∧ Good l s c ∧ ∀ i, i < 4 → f i = if i ∈ l then some (val i) else none

/-- f with v at i. -/
def upd (f : Nat → Option Value) (i : Nat) (v : Option Value) : Nat → Option Value := fun j => if j = i then v else f j

/-- How many keys there are. -/
def count (f : Nat → Option Value) : Nat := ((List.range 4).filter fun i => (f i).isSome).length

theorem MapV.kept {R b : Nat} {f : Nat → Option Value} {w w' : World} {row : Option Nat} (h : MapV R b f w) (hg : w.grownBy w' row) (hr : row ≠ some b) : MapV R b f w' := by
  obtain ⟨l, val, s, c, hm, hgd, hf⟩ := h
  exact ⟨l, val, s, c, (hg.block _ (Array.getElem?_eq_some_iff.1 hm).1 (fun e => hr e.symm)).trans hm, hgd, hf⟩
theorem MapV.lt {R b : Nat} {f : Nat → Option Value} {w : World} (h : MapV R b f w) : b < w.heap.size := by
  obtain ⟨l, val, s, c, hm, _⟩ := h
  exact (Array.getElem?_eq_some_iff.1 hm).1
theorem MapV.congr {R b : Nat} {f g : Nat → Option Value} {w : World} (h : MapV R b f w) (e : ∀ i, i < 4 → f i = g i) : MapV R b g w := by
  obtain ⟨l, val, s, c, hm, hgd, hf⟩ := h
  exact ⟨l, val, s, c, hm, hgd, fun i hi => (e i hi).symm.trans (hf i hi)⟩

theorem MapV.made (R : Nat) (w : World) : MapV R w.heap.size (fun _ => none) (w.alloc (.map #[] 0)) :=
  ⟨[], fun _ => undef, fun _ => 0, 0, heap_alloc_new w _, ⟨by simp, by simp, by simp, by simp⟩, fun i _ => by simp⟩

theorem check_key (b : Bool) (k : Nat) (R i : Nat) (w : World) : (Instr.checkKey b (k + 1) 27 (kp R i)).run Yba.prog w = .ok () w := by
  unfold Instr.checkKey
  rw [Sem.run_bind, run_underlying Yba.underlying27, Result.andThen_ok]
  rfl

theorem get_map {w : World} {b c : Nat} {es : Array MapEntry} (h : w.heap[b]? = some (.map es c)) : (getObj b).run Yba.prog w = .ok (.map es c) w := by simp [getObj, Sem.run, h]
theorem set_map {w : World} {b c : Nat} {es : Array MapEntry} (h : w.heap[b]? = some (.map es c)) (o : Obj) : (setObj b o).run Yba.prog w = .ok () { w with heap := w.heap.setIfInBounds b o } := by simp [setObj, Sem.run, h]

/-- 'm[k]', 'v, ok := m[k]'. -/
theorem MapV.lookup {R b : Nat} {f : Nat → Option Value} {w : World} (h : MapV R b f w) (hR : Roles R w) {T E : TypeId} (hT : Yba.prog.underlying T = some (.map 27 E)) {z : Value} (hz : (zeroValue E).run Yba.prog w = .ok z w) (i : Nat) (hi : i < 4) (ok : Bool) :
    (Instr.lookup T (.map (some b)) (kp R i) ok).run Yba.prog w = .ok (if ok then .tuple #[(f i).getD z, .bool (f i).isSome] else (f i).getD z) w := by
  obtain ⟨l, val, s, c, hm, hgd, hf⟩ := h
  rw [hf i hi]
  unfold MapAt at hm
  simp only [Instr.lookup, Sem.run_bind, run_underlying hT, Result.andThen_ok, get_map hm, Sem.run_pure, check_key _ 9999, find_key hR val s i hi l hgd.lt]
  by_cases e : i ∈ l
  · simp [e]
  · simp [e, hz]

theorem grown_set {w : World} {b : Nat} (o : Obj) : w.grownBy { w with heap := w.heap.setIfInBounds b o } (some b) :=
  ⟨rfl, rfl, rfl, by simp, fun k _ hk => by
    have : ¬ b = k := fun e => hk (by rw [e])
    simp [this]⟩

theorem idxOf_lt_of {l : List Nat} {i : Nat} (h : i ∈ l) : l.idxOf i < l.length := List.idxOf_lt_length_iff.2 h
theorem at_idxOf {l : List Nat} {i : Nat} (h : i ∈ l) : l[l.idxOf i]? = some i := by
  rw [List.getElem?_eq_getElem (idxOf_lt_of h)]; simp

theorem same_key (R i : Nat) : Instr.sameBits 10000 (kp R i) (kp R i) = true := by
  unfold kp; simp [Instr.sameBits]

theorem modify_ents {R : Nat} {l : List Nat} {val : Nat → Value} {s : Nat → Nat} {i : Nat} (hi : i ∈ l) (hn : l.Nodup) (v : Value) :
    (ents R l val s).toArray.modify (l.idxOf i) (fun e => { e with key := kp R i, val := v }) = (ents R l (fun j => if j = i then v else val j) s).toArray := by
  apply Array.ext_getElem?
  intro k
  rw [Array.getElem?_modify]
  by_cases e : l.idxOf i = k
  · subst e
    rw [if_pos rfl]
    simp [ents, at_idxOf hi]
  · rw [if_neg e]
    simp only [ents, List.getElem?_toArray, List.getElem?_map]
    cases hk : l[k]? with
    | none => simp
    | some j =>
      have hj : ¬ j = i := fun h => by
        subst h
        have hk' := (List.getElem?_eq_some_iff.1 hk)
        obtain ⟨hlt, hget⟩ := hk'
        exact e (by rw [← hget]; exact List.Nodup.idxOf_getElem hn k hlt)
      simp [hj]

theorem push_ents {R : Nat} {l : List Nat} {val : Nat → Value} {s : Nat → Nat} {i c : Nat} (hi : i ∉ l) (v : Value) :
    (ents R l val s).toArray.push { key := kp R i, val := v, born := c } = (ents R (l ++ [i]) (fun j => if j = i then v else val j) (fun j => if j = i then c else s j)).toArray := by
  have : ents R l val s = ents R l (fun j => if j = i then v else val j) (fun j => if j = i then c else s j) := by
    unfold ents
    refine List.map_congr_left fun j hj => ?_
    have : ¬ j = i := fun h => hi (h ▸ hj)
    simp [this]
  rw [this]
  simp [ents]

/-- 'm[k] = v'. -/
theorem MapV.update {R b : Nat} {f : Nat → Option Value} {w : World} (h : MapV R b f w) (hR : Roles R w) {T E : TypeId} (hT : Yba.prog.underlying T = some (.map 27 E)) (i : Nat) (hi : i < 4) (v : Value) :
    ∃ w', (Instr.mapUpdate T (.map (some b)) (kp R i) v).run Yba.prog w = .ok () w' ∧ w.grownBy w' (some b) ∧ w'.heap.size = w.heap.size ∧ MapV R b (upd f i (some v)) w' := by
  obtain ⟨l, val, s, c, hm, hgd, hf⟩ := h
  have hlt : b < w.heap.size := (Array.getElem?_eq_some_iff.1 hm).1
  unfold MapAt at hm
  simp only [Instr.mapUpdate, Sem.run_bind, run_underlying hT, Result.andThen_ok, get_map hm, check_key _ 9999, find_key hR val s i hi l hgd.lt]
  by_cases e : i ∈ l
  · have hk : (((ents R l val s).toArray[l.idxOf i]?).map (·.key)).getD (kp R i) = kp R i := by simp [ents, at_idxOf e]
    simp only [if_pos e, Instr.keyThatStays, hk, same_key, if_true, Sem.run_bind, Sem.run_pure, Result.andThen_ok, set_map hm, modify_ents e hgd.nodup v]
    refine ⟨_, rfl, grown_set _, by simp, l, fun j => if j = i then v else val j, s, c, ?_, hgd, fun j hj => ?_⟩
    · unfold MapAt; simp [hlt]
    · unfold upd
      by_cases ej : j = i
      · subst ej; simp [e]
      · simp [ej, hf j hj]
  · simp only [if_neg e, set_map hm, push_ents e v]
    refine ⟨_, rfl, grown_set _, by simp, l ++ [i], fun j => if j = i then v else val j, fun j => if j = i then c else s j, c + 1, ?_, ⟨?_, ?_, ?_, ?_⟩, fun j hj => ?_⟩
    · unfold MapAt; simp [hlt]
    · rw [List.nodup_append]
      exact ⟨hgd.nodup, by simp, fun a ha b hb => by simp at hb; subst hb; exact fun h => e (h ▸ ha)⟩
    · intro j hj; simp at hj; rcases hj with hj | hj
      · exact hgd.lt j hj
      · omega
    · intro j hj; simp at hj
      by_cases ej : j = i
      · simp [ej]
      · simp only [ej, if_false]
        rcases hj with hj | hj
        · have := hgd.born j hj; omega
        · exact absurd hj ej
    · intro j hj k hk hjk
      simp at hj hk
      by_cases ej : j = i <;> by_cases ek : k = i
      · omega
      · rcases hk with hk | hk
        · have := hgd.born k hk; simp [ej, ek] at hjk; omega
        · exact absurd hk ek
      · rcases hj with hj | hj
        · have := hgd.born j hj; simp [ej, ek] at hjk; omega
        · exact absurd hj ej
      · rcases hj with hj | hj
        · rcases hk with hk | hk
          · simp [ej, ek] at hjk; exact hgd.inj j hj k hk hjk
          · exact absurd hk ek
        · exact absurd hj ej
    · unfold upd
      by_cases ej : j = i
      · subst ej; simp
      · simp [ej, hf j hj]

/-- 'delete(m, k)'. -/
theorem MapV.delete {R b : Nat} {f : Nat → Option Value} {w : World} (h : MapV R b f w) (hR : Roles R w) {T E : TypeId} (hT : Yba.prog.underlying T = some (.map 27 E)) (ty : TypeId) (i : Nat) (hi : i < 4) :
    ∃ w', (Builtin.delete_ #[T, 27] ty #[.map (some b), kp R i]).run Yba.prog w = .ok (.tuple #[]) w' ∧ w.grownBy w' (some b) ∧ w'.heap.size = w.heap.size ∧ MapV R b (upd f i none) w' := by
  obtain ⟨l, val, s, c, hm, hgd, hf⟩ := h
  have hlt : b < w.heap.size := (Array.getElem?_eq_some_iff.1 hm).1
  unfold MapAt at hm
  simp only [Builtin.delete_, List.getElem?_toArray, List.getElem?_cons_zero, List.getElem?_cons_succ, Sem.run_bind, run_underlying hT, Result.andThen_ok, get_map hm, check_key _ 9999, find_key hR val s i hi l hgd.lt]
  by_cases e : i ∈ l
  · have he : (ents R l val s).toArray.eraseIdxIfInBounds (l.idxOf i) = (ents R (l.erase i) val s).toArray := by
      apply Array.toList_inj.1
      simp only [Array.toList_eraseIdxIfInBounds, ents]
      rw [← Go.ChangeMaps.map_eraseIdx, ← List.erase_eq_eraseIdx_of_idxOf rfl]
    simp only [if_pos e, Sem.run_bind, set_map hm, he, Result.andThen_ok, Sem.run_pure]
    refine ⟨_, rfl, grown_set _, by simp, l.erase i, val, s, c, ?_, ⟨hgd.nodup.erase i, fun j hj => hgd.lt j (List.mem_of_mem_erase hj), fun j hj => hgd.born j (List.mem_of_mem_erase hj), fun j hj k hk => hgd.inj j (List.mem_of_mem_erase hj) k (List.mem_of_mem_erase hk)⟩, fun j hj => ?_⟩
    · unfold MapAt; simp [hlt]
    · unfold upd
      by_cases ej : j = i
      · subst ej; simp [hgd.nodup.mem_erase_iff]
      · simp [ej, hf j hj, hgd.nodup.mem_erase_iff]
  · simp only [if_neg e, Sem.run_bind, set_map hm, Result.andThen_ok, Sem.run_pure]
    refine ⟨_, rfl, grown_set _, by simp, l, val, s, c, ?_, hgd, fun j hj => ?_⟩
    · unfold MapAt; simp [hlt]
    · unfold upd
      by_cases ej : j = i
      · subst ej; simp [e]
      · simp [ej, hf j hj]

theorem count_keys {f : Nat → Option Value} {l : List Nat} {val : Nat → Value} (hn : l.Nodup) (hl : ∀ i ∈ l, i < 4) (hf : ∀ i, i < 4 → f i = if i ∈ l then some (val i) else none) : count f = l.length := by
  unfold count
  refine List.Perm.length_eq ?_
  refine (List.perm_ext_iff_of_nodup ?_ hn).2 fun i => ?_
  · exact List.Pairwise.filter _ List.nodup_range
  · simp only [List.mem_filter, List.mem_range]
    constructor
    · rintro ⟨h4, hs⟩
      rw [hf i h4] at hs
      by_cases e : i ∈ l
      · exact e
      · simp [e] at hs
    · intro h
      exact ⟨hl i h, by rw [hf i (hl i h)]; simp [h]⟩

/-- 'len(m)'. -/
theorem MapV.len {R b : Nat} {f : Nat → Option Value} {w : World} (h : MapV R b f w) {T E : TypeId} (hT : Yba.prog.underlying T = some (.map 27 E)) (ty : TypeId) :
    (Builtin.len_ #[T] ty #[.map (some b)]).run Yba.prog w = .ok (.int .i64 (count f)) w := by
  obtain ⟨l, val, s, c, hm, hgd, hf⟩ := h
  unfold MapAt at hm
  rw [count_keys hgd.nodup hgd.lt hf]
  simp [Builtin.len_, Sem.run_bind, run_underlying hT, get_map hm, goInt, ents]

/-! ### The same at a plain region's list of operations -/
section
variable {ops : Array Oper} {rest : List Oper} {o : Oper} {a : Act} {Q : Exit → Act → World → Prop} {w : World}

theorem at_update (hg : o.guard = none) (m x v : Operand) (T : TypeId) (hop : o.op = Op.mapUpdate T m x v) {E : TypeId} (hT : Yba.prog.underlying T = some (.map 27 E)) (R b i : Nat) (f : Nat → Option Value) (u : Value)
    (hm : a.eval m = .map (some b)) (hx : a.eval x = kp R i) (hv : a.eval v = u) (h : MapV R b f w) (hR : Roles R w) (hi : i < 4)
    (hK : ∀ w', w.grownBy w' (some b) → w'.heap.size = w.heap.size → MapV R b (upd f i (some u)) w' → wpList Yba.prog ops Q rest (a.put o.dst undef) w') : wpList Yba.prog ops Q (o :: rest) a w := by
  refine wpList_plain hg fun K' hK' => ?_
  obtain ⟨w', hrun, r1, r2, r3⟩ := h.update hR hT i hi u
  unfold Oper.wp
  simp [execOp, hop, hm, hx, hv, hrun, Result.andThen]
  exact hK' _ _ (hK w' r1 r2 r3)

theorem at_delete' (hg : o.guard = none) (m x : Operand) (T : TypeId) (hop : o.op = Op.call { callee := Callee.builtin Builtin.delete, args := #[m, x], argTypes := #[T, 27] }) {E : TypeId} (hT : Yba.prog.underlying T = some (.map 27 E)) (R b i : Nat) (f : Nat → Option Value)
    (hm : a.eval m = .map (some b)) (hx : a.eval x = kp R i) (h : MapV R b f w) (hR : Roles R w) (hi : i < 4)
    (hK : ∀ w', w.grownBy w' (some b) → w'.heap.size = w.heap.size → MapV R b (upd f i none) w' → wpList Yba.prog ops Q rest (a.put o.dst (.tuple #[])) w') : wpList Yba.prog ops Q (o :: rest) a w := by
  refine wpList_plain hg fun K' hK' => ?_
  obtain ⟨w', hrun, r1, r2, r3⟩ := h.delete hR hT o.type i hi
  unfold Oper.wp
  simp [execOp, hop, resolve, invoke, builtin, hm, hx, hrun, Result.andThen]
  exact hK' _ _ (hK w' r1 r2 r3)

theorem at_look (hg : o.guard = none) (m x : Operand) (T : TypeId) (ok : Bool) (hop : o.op = Op.lookup T m x ok) {E : TypeId} (hT : Yba.prog.underlying T = some (.map 27 E)) (R b i : Nat) (f : Nat → Option Value) (z : Value) (hz : (zeroValue E).run Yba.prog w = .ok z w)
    (hm : a.eval m = .map (some b)) (hx : a.eval x = kp R i) (h : MapV R b f w) (hR : Roles R w) (hi : i < 4) (u : Value) (hu : (if ok then .tuple #[(f i).getD z, .bool (f i).isSome] else (f i).getD z) = u)
    (hK : wpList Yba.prog ops Q rest (a.put o.dst u) w) : wpList Yba.prog ops Q (o :: rest) a w := by
  refine wpList_plain hg fun K' hK' => ?_
  have hrun := h.lookup hR hT hz i hi ok
  rw [hu] at hrun
  unfold Oper.wp
  simp [execOp, hop, hm, hx, hrun, Result.andThen]
  exact hK' _ _ hK

theorem at_size (hg : o.guard = none) (m : Operand) (T : TypeId) (hop : o.op = Op.call { callee := Callee.builtin Builtin.len, args := #[m], argTypes := #[T] }) {E : TypeId} (hT : Yba.prog.underlying T = some (.map 27 E)) (R b : Nat) (f : Nat → Option Value)
    (hm : a.eval m = .map (some b)) (h : MapV R b f w) (hK : wpList Yba.prog ops Q rest (a.put o.dst (.int .i64 (count f))) w) : wpList Yba.prog ops Q (o :: rest) a w := by
  refine wpList_plain hg fun K' hK' => ?_
  unfold Oper.wp
  simp [execOp, hop, resolve, invoke, builtin, hm, h.len hT o.type, Result.andThen]
  exact hK' _ _ hK
end
end Go.Proofs.Ybulkchms
