/-
  (acl).moveGrantor: its contract.
-/
import Derived.Test.YbulkchmsMove
namespace Go.Proofs.Ybulkchms
open Go.RowKit
open Go.ChangeMaps (setBlock)

theorem under31 : Yba.prog.underlying 31 = some (.map 27 61) := by kernel_rfl
theorem under61 : Yba.prog.underlying 61 = some (.map 27 55) := by kernel_rfl

/-- The grants while the loop goes: those in D are done. -/
def part (f t : Nat) (D : List Nat) (h : Nat → Nat → Option (Int × Int)) : Nat → Nat → Option (Int × Int) := fun g => if g ∈ D then moved f t (h g) else h g

/-- The loop's relation. -/
structure Going (R Ba : Nat) (im : Nat → Option Nat) (l : List Nat) (s : Nat → Nat) (c f t : Nat) (h : Nat → Nat → Option (Int × Int)) (w : World) (D : List Nat) (wr : World) : Prop where
  sub : ∀ g ∈ D, g ∈ l
  nodup : D.Nodup
  iter : wr.heap[w.heap.size]? = some (.mapIter (some Ba) c (D.map s).toArray c)
  inner : Inner R im (part f t D h) wr
  kept : Kept im w wr

/-- One grantee more is done: whatever has become of the world, its own map alone and new blocks have turned. -/
theorem Going.step {R Ba : Nat} {im : Nat → Option Nat} {l : List Nat} {s : Nat → Nat} {c f t : Nat} {h : Nat → Nat → Option (Int × Int)} {w : World} {D : List Nat} {wr w1 w2 : World} (hG : Going R Ba im l s c f t h w D wr) (hA : Apart Ba im) (hlt : ∀ g, g < 4 → ∀ b, im g = some b → b < w.heap.size) {g b : Nat}
    (h4 : g < 4) (hgl : g ∈ l) (hgD : g ∉ D) (hb : im g = some b) (h1 : wr.grownBy w1 (some w.heap.size)) (hit : w1.heap[w.heap.size]? = some (.mapIter (some Ba) c ((D ++ [g]).map s).toArray c)) (h2 : w1.grownBy w2 (some b)) (hm : MapV R b (view (moved f t (h g))) w2) :
    Going R Ba im l s c f t h w (D ++ [g]) w2 := by
  have hbH : b ≠ w.heap.size := fun e => by have := hlt g h4 b hb; omega
  refine ⟨fun x hx => ?_, ?_, ?_, ?_, ?_⟩
  · simp at hx; rcases hx with hx | rfl
    · exact hG.sub x hx
    · exact hgl
  · rw [List.nodup_append]; exact ⟨hG.nodup, by simp, fun a ha b hb => by simp at hb; subst hb; exact fun e => hgD (e ▸ ha)⟩
  · exact (h2.block _ (Array.getElem?_eq_some_iff.1 hit).1 (by simpa using fun e => hbH e.symm)).trans hit
  · intro g' h4' b' e'
    by_cases eg : g' = g
    · subst eg
      have : b' = b := by rw [hb] at e'; exact (Option.some.inj e').symm
      subst this
      simpa [part] using hm
    · have hbb : b ≠ b' := fun e => eg (hA.inj g' h4' g h4 b' e' (e ▸ hb))
      have hbH' : w.heap.size ≠ b' := fun e => by have := hlt g' h4' b' e'; omega
      have h0 := ((hG.inner g' h4' b' e').kept h1 (by simpa using hbH')).kept h2 (by simpa using hbb)
      have : part f t (D ++ [g]) h g' = part f t D h g' := by unfold part; simp [eg]
      rw [this]; exact h0
  · exact (hG.kept.grown h1 (fun k hk => .inl (by cases hk; exact Nat.le_refl _))).grown h2 (fun k hk => .inr ⟨g, h4, by cases hk; exact hb⟩)

theorem Going.len {R Ba : Nat} {im : Nat → Option Nat} {l : List Nat} {s : Nat → Nat} {c f t : Nat} {h : Nat → Nat → Option (Int × Int)} {w : World} {D : List Nat} {wr : World} (hG : Going R Ba im l s c f t h w D wr) : D.length ≤ l.length :=
  List.Nodup.length_le_of_subset hG.nodup (fun x hx => hG.sub x hx)

theorem grown_any {w w' : World} {row : Option Nat} (h : w.grownBy w' none) : w.grownBy w' row := ⟨h.os, h.tape, h.output, h.size, fun k hk _ => h.block k hk (by simp)⟩

set_option maxHeartbeats 1600000 in
set_option maxRecDepth 100000 in
theorem move_any (R Ba : Nat) (im : Nat → Option Nat) (l : List Nat) (s : Nat → Nat) (c f t : Nat) (h : Nat → Nat → Option (Int × Int)) (hf : f < 4) (ht : t < 4) (w : World)
    (hO : OuterAt R Ba im l s c w) (hI : Inner R im h w) (hA : Apart Ba im) (hR : Roles R w) :
    Calls Yba.prog 6 #[.map (some Ba), kp R f, kp R t] w fun e w' => e = .returned (.tuple #[]) ∧ Inner R im (fun g => moved f t (h g)) w' ∧ Kept im w w' := by
  have hrg : (Instr.range 31 (.map (some Ba))).run Yba.prog w = .ok (.pointer (some ⟨w.heap.size, 0, none⟩)) (w.alloc (.mapIter (some Ba) c #[] c)) := run_range_map w 31 27 61 Ba _ c under31 hO.at_
  have hG0 : Going R Ba im l s c f t h w [] (w.alloc (.mapIter (some Ba) c #[] c)) :=
    ⟨by simp, by simp, heap_alloc_new w _, fun g h4 b e => by simpa [part] using (hI g h4 b e).kept (World.grownBy_alloc w _ none) (by simp), (Kept.refl im w).grown (World.grownBy_alloc w _ none) (by simp)⟩
  have HO : Hid (OuterAt R Ba im l s c w) := hO
  have HI : Hid (Inner R im h w) := hI
  have HR : Hid (Roles R w) := hR
  have HA : Hid (Apart Ba im) := hA
  have HG0 : Hid (Going R Ba im l s c f t h w [] (w.alloc (.mapIter (some Ba) c #[] c))) := hG0
  clear hO hI hR hA hG0
  go_enter Yba.func6, Yba.ntmps6
  go_wp2
  have HLT : Hid (∀ g, g < 4 → ∀ b, im g = some b → b < w.heap.size) := fun g h4 b e => (HI.out g h4 b e).lt
  go_loopg [7] l.length (fun k _ wr => ∃ D : List Nat, D.length + k = l.length ∧ Going R Ba im l s c f t h w D wr)
  case atStart => exact ⟨[], by simp, HG0.out⟩
  case round =>
    clear HG0 hrg
    obtain ⟨D, hlen, hG⟩ := hrel
    have hOr := HO.out.kept HA.out hG.kept
    have hRr := HR.out.keptK HI.out hG.kept
    have HG : Hid (Going R Ba im l s c f t h w D wr) := hG
    have HOr : Hid (OuterAt R Ba im l s c wr) := hOr
    have HRr : Hid (Roles R wr) := hRr
    have HL : Hid (D.length + gk = l.length) := hlen
    clear hG hOr hRr hlen
    go_wp2_with (refine at_next' rfl _ rfl R Ba w.heap.size im l D s c rfl HG.out.iter HOr.out HG.out.sub ?_ ?_)
    · intro hall
      have hfin : Inner R im (fun g => moved f t (h g)) wr := fun g h4 b e => by
        have hgl := (HO.out.iff g h4).2 (by rw [e]; rfl)
        have := HG.out.inner g h4 b e
        unfold part at this
        rwa [if_pos (hall g hgl)] at this
      have HF : Hid (Inner R im (fun g => moved f t (h g)) wr) := hfin
      clear hfin hall
      go_wp2
      go_end0
      exact ⟨rfl, HF.out, HG.out.kept⟩
    · intro g b w1 h4 hgl hgD hb hgr hsz hit hen
      have hbl := HLT.out g h4 b hb
      have hbr : b < wr.heap.size := Nat.lt_of_lt_of_le hbl HG.out.kept.size
      have hm1 : MapV R b (view (h g)) w1 := by
        have := HG.out.inner g h4 b hb
        unfold part at this
        rw [if_neg hgD] at this
        exact this.kept hgr (by simp; omega)
      have hR1 : Roles R w1 := HRr.out.kept hgr (fun i hi e => by
        have e' : w.heap.size = R + i := Option.some.inj e
        obtain ⟨cs, hc⟩ := HRr.out i hi
        rw [← e', HG.out.iter] at hc; cases hc)
      have HM1 : Hid (MapV R b (view (h g)) w1) := hm1
      have HR1 : Hid (Roles R w1) := hR1
      have HX : Hid (g ∈ l ∧ g ∉ D ∧ im g = some b ∧ wr.grownBy w1 (some w.heap.size) ∧ w1.heap[w.heap.size]? = some (.mapIter (some Ba) c ((D ++ [g]).map s).toArray c)) := ⟨hgl, hgD, hb, hgr, by simpa using hit⟩
      have hb1 : b < w1.heap.size := by omega
      clear hm1 hR1 hgl hgD hb hgr hit hsz hbr
      cases hgf : h g f with
      | none =>
        have hmv : moved f t (h g) = h g := by unfold moved; rw [hgf]
        have HMV : Hid (moved f t (h g) = h g) := hmv
        have hlk : (if true then Value.tuple #[(view (h g) f).getD (hv (0, 0)), .bool (view (h g) f).isSome] else (view (h g) f).getD (hv (0, 0))) = .tuple #[.agg #[.int .u32 0, .int .u32 0], .bool false] := by
          simp [view, hgf, hv]
        have HLK : Hid ((if true then Value.tuple #[(view (h g) f).getD (hv (0, 0)), .bool (view (h g) f).isSome] else (view (h g) f).getD (hv (0, 0))) = .tuple #[.agg #[.int .u32 0, .int .u32 0], .bool false]) := hlk
        clear hlk hmv hgf
        go_wp2_with (refine at_look rfl _ _ 61 true rfl under61 R b f (view (h g)) (hv (0, 0)) (zero55 _) rfl rfl HM1.out HR1.out hf _ HLK.out ?_)
        have hS : Going R Ba im l s c f t h w (D ++ [g]) (w1.alloc (.cells #[.int .u32 0, .int .u32 0] 55)) :=
          HG.out.step HA.out HLT.out h4 HX.out.1 HX.out.2.1 HX.out.2.2.1 HX.out.2.2.2.1 HX.out.2.2.2.2 (World.grownBy_alloc w1 _ _) (by rw [HMV.out]; exact HM1.out.kept (World.grownBy_alloc w1 _ none) (by simp))
        have hle := hS.len
        simp at hle
        have hl0 := HL.out
        go_roundg (gk - 1)
        case measure => omega
        case rel => exact ⟨D ++ [g], by simp; omega, hS⟩
      | some x =>
        obtain ⟨p, q⟩ := x
        obtain ⟨y1, y2, hy⟩ : ∃ y1 y2, ((del (h g) f) t).getD (0, 0) = (y1, y2) := ⟨_, _, rfl⟩
        have hmv : moved f t (h g) = ins (del (h g) f) t (orH (y1, y2) (p, q)) := by unfold moved; rw [hgf]; simp only [hy]
        have HMV : Hid (moved f t (h g) = ins (del (h g) f) t (orH (y1, y2) (p, q))) := hmv
        have hlk : (if true then Value.tuple #[(view (h g) f).getD (hv (0, 0)), .bool (view (h g) f).isSome] else (view (h g) f).getD (hv (0, 0))) = .tuple #[.agg #[.int .u32 p, .int .u32 q], .bool true] := by
          simp [view, hgf, hv]
        have HLK : Hid ((if true then Value.tuple #[(view (h g) f).getD (hv (0, 0)), .bool (view (h g) f).isSome] else (view (h g) f).getD (hv (0, 0))) = .tuple #[.agg #[.int .u32 p, .int .u32 q], .bool true]) := hlk
        have hlk2 : (if false then Value.tuple #[(view (del (h g) f) t).getD (hv (0, 0)), .bool (view (del (h g) f) t).isSome] else (view (del (h g) f) t).getD (hv (0, 0))) = .agg #[.int .u32 y1, .int .u32 y2] := by
          have : (view (del (h g) f) t).getD (hv (0, 0)) = hv (((del (h g) f) t).getD (0, 0)) := by unfold view; cases (del (h g) f) t <;> rfl
          simp only [Bool.false_eq_true, if_false, this, hy]; rfl
        have HLK2 : Hid ((if false then Value.tuple #[(view (del (h g) f) t).getD (hv (0, 0)), .bool (view (del (h g) f) t).isSome] else (view (del (h g) f) t).getD (hv (0, 0))) = .agg #[.int .u32 y1, .int .u32 y2]) := hlk2
        clear hlk hlk2 hmv hgf hy
        have HM1' : Hid (MapV R b (view (h g)) (w1.alloc (.cells #[.int .u32 p, .int .u32 q] 55))) := HM1.out.kept (World.grownBy_alloc w1 _ none) (by simp)
        have HR1' : Hid (Roles R (w1.alloc (.cells #[.int .u32 p, .int .u32 q] 55))) := HR1.out.kept (World.grownBy_alloc w1 _ none) (by simp)
        go_wp2_with (first
          | (refine at_look rfl _ _ 61 true rfl under61 R b f (view (h g)) (hv (0, 0)) (zero55 _) rfl rfl HM1.out HR1.out hf _ HLK.out ?_)
          | (refine at_delete' rfl _ _ 61 rfl under61 R b f (view (h g)) rfl rfl HM1'.out HR1'.out hf ?_))
        intro w2 hg2 hs2 hm2
        rw [upd_del] at hm2
        have hR2 : Roles R w2 := HR1'.out.kept hg2 (fun i hi e => (HR1.out.apart (im := fun j => if j = 0 then some b else none) (h := fun _ => h g) (fun j hj b' e' => by by_cases j0 : j = 0 <;> simp [j0] at e'; subst e'; exact HM1.out) i hi) 0 (by omega) (by simpa using e))
        have hne : ¬ w1.heap.size = b := by omega
        have hc0 : w2.cell? ⟨w1.heap.size, 0, none⟩ = some (.int .u32 p) := hg2.cell (World.cell?_alloc_new w1 _ 55 0) (by simpa using hne)
        have hc1 : w2.cell? ⟨w1.heap.size, 1, none⟩ = some (.int .u32 q) := hg2.cell (World.cell?_alloc_new w1 _ 55 1) (by simpa using hne)
        have HM2 : Hid (MapV R b (view (del (h g) f)) w2) := hm2
        have HR2 : Hid (Roles R w2) := hR2
        have HG2 : Hid (w1.grownBy w2 (some b)) := (World.grownBy_alloc w1 _ _).trans hg2
        clear hm2 hR2 hg2 HM1' HR1' hs2
        go_wp2_with (first
          | (refine at_look rfl _ _ 61 false rfl under61 R b t (view (del (h g) f)) (hv (0, 0)) (zero55 _) rfl rfl HM2.out HR2.out ht _ HLK2.out ?_)
          | (go_at_call 7; refine (plus_any (y1, y2) (p, q) _).mono ?_; rintro e w3 ⟨rfl, hg3⟩; have hm3 := HM2.out.kept hg3 (by simp); have hR3 := HR2.out.kept hg3 (by simp))
          | (refine at_update rfl _ _ _ 61 rfl under61 R b t (view (del (h g) f)) (hv (orH (y1, y2) (p, q))) rfl rfl rfl hm3 hR3 ht ?_))
        intro w4 hg4 hs4 hm4
        have HG3 : Hid (w1.grownBy w3 (some b)) := HG2.out.trans (grown_any hg3)
        rw [upd_ins] at hm4
        have hS : Going R Ba im l s c f t h w (D ++ [g]) w4 :=
          HG.out.step HA.out HLT.out h4 HX.out.1 HX.out.2.1 HX.out.2.2.1 HX.out.2.2.2.1 HX.out.2.2.2.2 (HG3.out.trans hg4) (by rw [HMV.out]; exact hm4)
        have hle := hS.len
        simp at hle
        have hl0 := HL.out
        have HS : Hid (Going R Ba im l s c f t h w (D ++ [g]) w4) := hS
        clear hS hm4 hg4 hm3 hR3 hg3 hs4 hc0 hc1
        go_wp2
        go_roundg (gk - 1)
        case measure => omega
        case rel => exact ⟨D ++ [g], by simp; omega, HS.out⟩
end Go.Proofs.Ybulkchms
