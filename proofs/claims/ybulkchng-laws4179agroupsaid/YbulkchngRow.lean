/-
  A row of matches in memory; slices.insertionSortCmpFunc over it.
-/
import Derived.Test.YbulkchngCmp
import Derived.Sort.LotA
import Derived.Laws.Rows
import Derived.Deep.QuietTactic
import Derived.BigQuiet
import Derived.StillTailTactics
import Derived.BigRegion
namespace Go.Proofs.Ybulkchng
open Go.RowKit Go.Sort

/-- Block b holds the matches d. -/
structure RowM (b : Nat) (d : Array Mt) (w : World) : Prop where
  c0 : ∀ t, t < d.size → w.cell? ⟨b, t * 2, none⟩ = some (.int .i64 d[t]!.1)
  c1 : ∀ t, t < d.size → w.cell? ⟨b, t * 2 + 1, none⟩ = some (.float .f64 (fl d[t]!.2))
  fz : ∀ i, w.frozen? ⟨b, i, none⟩ = false
  lt : b < w.heap.size

theorem RowM.grown {b : Nat} {d : Array Mt} {w w' : World} {row : Option Nat} (h : RowM b d w) (hg : w.grownBy w' row) (hr : row ≠ some b) : RowM b d w' :=
  ⟨fun t ht => hg.cell (h.c0 t ht) (fun e => hr e.symm), fun t ht => hg.cell (h.c1 t ht) (fun e => hr e.symm),
    fun i => (World.frozen?_of_block (hg.block b h.lt (fun e => hr e.symm))).trans (h.fz i), Nat.lt_of_lt_of_le h.lt hg.size⟩

/-- One match is written. -/
def putM (w : World) (b i : Nat) (m : Mt) : World := (w.setCell ⟨b, i * 2, none⟩ (.int .i64 m.1)).setCell ⟨b, i * 2 + 1, none⟩ (.float .f64 (fl m.2))

theorem grown_setCell (W : World) (a : Addr) (v : Value) : W.grownBy (W.setCell a v) (some a.block) :=
  ⟨rfl, rfl, rfl, by simp [World.setCell], fun k _ hk => Below.heap_setCell _ _ _ _ (fun e => hk (by rw [e]))⟩
theorem grown_putM (w : World) (b i : Nat) (m : Mt) : w.grownBy (putM w b i m) (some b) := (grown_setCell w ⟨b, i * 2, none⟩ _).trans (grown_setCell _ ⟨b, i * 2 + 1, none⟩ _)

theorem cell_putM {w : World} {b i : Nat} {m : Mt} {o : Nat} {v : Value} (hv : w.cell? ⟨b, o, none⟩ = some v) :
    (putM w b i m).cell? ⟨b, o, none⟩ = some (if o = i * 2 then .int .i64 m.1 else if o = i * 2 + 1 then .float .f64 (fl m.2) else v) := by
  unfold putM
  by_cases e1 : o = i * 2
  · rw [if_pos e1, World.cell?_setCell_other _ _ _ _ (fun e' => by have := congrArg Addr.off e'; simp at this; omega)]
    subst e1; exact World.cell?_setCell_same w _ _ hv
  · rw [if_neg e1]
    have h1 : (w.setCell ⟨b, i * 2, none⟩ (.int .i64 m.1)).cell? ⟨b, o, none⟩ = some v := by
      rw [World.cell?_setCell_other _ _ _ _ (fun e' => by have := congrArg Addr.off e'; simp at this; omega)]; exact hv
    by_cases e2 : o = i * 2 + 1
    · rw [if_pos e2]; subst e2; exact World.cell?_setCell_same _ _ _ h1
    · rw [if_neg e2, World.cell?_setCell_other _ _ _ _ (fun e' => by have := congrArg Addr.off e'; simp at this; omega)]; exact h1

theorem RowM.put {b : Nat} {d : Array Mt} {w : World} (h : RowM b d w) (i : Nat) (hi : i < d.size) (m : Mt) : RowM b (d.setIfInBounds i m) (putM w b i m) := by
  have key : ∀ t, t < d.size → (d.setIfInBounds i m)[t]! = if t = i then m else d[t]! := fun t ht => by
    by_cases e : t = i
    · subst e; simp [ht]
    · simp [ht, e, Ne.symm e]
  refine ⟨fun t ht => ?_, fun t ht => ?_, fun j => by unfold putM; rw [World.frozen?_setCell, World.frozen?_setCell]; exact h.fz j, by unfold putM; simp [World.setCell]; exact h.lt⟩
  · simp only [Array.size_setIfInBounds] at ht
    rw [cell_putM (h.c0 t ht), key t ht]
    by_cases e : t = i
    · subst e; simp
    · rw [if_neg (by omega), if_neg (by omega), if_neg e]
  · simp only [Array.size_setIfInBounds] at ht
    rw [cell_putM (h.c1 t ht), key t ht]
    by_cases e : t = i
    · subst e; rw [if_neg (by omega), if_pos rfl, if_pos rfl]
    · rw [if_neg (by omega), if_neg (by omega), if_neg e]

theorem RowM.swap {b : Nat} {d : Array Mt} {w : World} (h : RowM b d w) (i j : Nat) (hi : i < d.size) (hj : j < d.size) : RowM b (swp d i j) (putM (putM w b i d[j]!) b j d[i]!) := by
  have := (h.put i hi d[j]!).put j (by simpa using hj) d[i]!
  exact this

theorem grown_drew (W : World) : W.grownBy W.drew none := ⟨rfl, rfl, rfl, Nat.le_refl _, fun _ _ _ => rfl⟩
theorem grown_drewN (W : World) (n : Nat) : W.grownBy (W.drewN n) none := ⟨rfl, rfl, rfl, Nat.le_refl _, fun _ _ _ => rfl⟩
theorem grown_any {w w' : World} {row : Option Nat} (h : w.grownBy w' none) : w.grownBy w' row := ⟨h.os, h.tape, h.output, h.size, fun k hk _ => h.block k hk (by simp)⟩
theorem grown_refl (w : World) (row : Option Nat) : w.grownBy w row := ⟨rfl, rfl, rfl, Nat.le_refl _, fun _ _ _ => rfl⟩

theorem run_store_float {P : Program} {w : World} {a : Addr} {m : Mode} (k : FloatKind) (b : Nat) : (store a (.float k b) m).run P w = stored P w a (.float k b) m := run_store P w a _ m rfl
attribute [local go_sem] run_store_float
def intOf : Value → Int
  | .int _ q => q
  | _ => 0

set_option maxHeartbeats 1600000 in
set_option maxRecDepth 100000 in
theorem insertion {F : Nat} {lt : Mt → Mt → Bool} (hF : Cmps F lt) (hS : SWO lt) (b cap a e : Nat) (d : Array Mt) (w : World) (hR : RowM b d w) (hsm : ∀ t, t < d.size → d[t]!.2 < 1024) (hae : a ≤ e) (he : e ≤ d.size) (hsz : d.size ≤ 2048) :
    Calls Yba.prog 22 #[.slice (some ⟨b, 0, none⟩) d.size cap, .int .i64 a, .int .i64 e, .func (.func F) #[] #[]] w fun x w' => x = .returned (.tuple #[]) ∧ ∃ d', PermIn a e d d' ∧ SortedIn lt a e d' ∧ RowM b d' w' ∧ w.grownBy w' (some b) := by
  have hS0 : SortedIn lt a (a + 1) d := fun p q h1 h2 h3 => by omega
  have HI : Hid (RowM b d w ∧ SortedIn lt a (a + 1) d) := ⟨hR, hS0⟩
  have HSM : Hid (∀ t, t < d.size → d[t]!.2 < 1024) := hsm
  have HC : Hid (Cmps F lt) := hF
  have hgo := hF.goes
  clear hR hS0 hsm hF
  go_enter Yba.func22, Yba.ntmps22
  go_wp2
  go_loopw [8] (fun vi wr => ∃ (i : Nat) (dk : Array Mt), vi = .int .i64 i ∧ a < i ∧ i ≤ e + 1 ∧ PermIn a e d dk ∧ SortedIn lt a i dk ∧ RowM b dk wr ∧ w.grownBy wr (some b)) (fun vi _ => e + 1 - (intOf vi).toNat)
  case atStart => exact ⟨a + 1, d, by go_num, by omega, by omega, permIn_refl _ _ _, HI.out.2, HI.out.1, ⟨rfl, rfl, rfl, Nat.le_refl _, fun _ _ _ => rfl⟩⟩
  case round =>
    obtain ⟨i, dk, rfl, hai, hie, hP, hSo, hR, hG⟩ := hrel
    have HO : Hid (PermIn a e d dk ∧ SortedIn lt a i dk ∧ RowM b dk wr ∧ w.grownBy wr (some b)) := ⟨hP, hSo, hR, hG⟩
    clear hP hSo hR hG
    by_cases hlt : i < e
    · have hlti : (i : Int) < (e : Int) := by omega
      go_wp2
      go_loopw [9] (fun vj wr2 => ∃ (j : Nat) (dj : Array Mt), vj = .int .i64 j ∧ a ≤ j ∧ j ≤ i ∧ PermIn a e d dj ∧ Ins lt a j i dj ∧ RowM b dj wr2 ∧ w.grownBy wr2 (some b)) (fun vj _ => (intOf vj).toNat)
      case atStart =>
        refine ⟨i, dk, rfl, by omega, Nat.le_refl _, HO.out.1, ⟨fun p q h1 h2 h3 h4 h5 => HO.out.2.1 p q h1 h2 (by omega), fun q h1 h2 => by omega⟩, HO.out.2.2.1, HO.out.2.2.2⟩
      case round =>
        clear HO
        obtain ⟨j, dj, rfl, haj, hji, hP, hIn, hR, hG⟩ := hrel
        have hsj : dj.size = d.size := hP.1
        have HJ : Hid (PermIn a e d dj ∧ Ins lt a j i dj ∧ RowM b dj wr ∧ w.grownBy wr (some b)) := ⟨hP, hIn, hR, hG⟩
        by_cases hja : a < j
        · obtain ⟨k, rfl⟩ : ∃ k, j = k + 1 := ⟨j - 1, by omega⟩
          obtain ⟨x, hx⟩ : ∃ x, x = dj[k + 1]! := ⟨_, rfl⟩
          obtain ⟨y, hy⟩ : ∃ y, y = dj[k]! := ⟨_, rfl⟩
          have c0 := hR.c0 (k + 1) (by omega)
          have c1 := hR.c1 (k + 1) (by omega)
          have c2 := hR.c0 k (by omega)
          have c3 := hR.c1 k (by omega)
          rw [← hx] at c0 c1
          rw [← hy] at c2 c3
          have hgd : (a : Int) < (k : Int) + 1 := by omega
          have hb1 : (k : Int) + 1 < (d.size : Int) := by omega
          have hb2 : (k : Int) < (d.size : Int) := by omega
          have hb3 : (0 : Int) ≤ (k : Int) + 1 := by omega
          have hx2 : x.2 < 1024 := by rw [hx]; exact permIn_all d dj a e (fun m => m.2 < 1024) he hP (fun t h1 h2 => HSM.out t (by omega)) (k + 1) (by omega) (by omega)
          have hy2 : y.2 < 1024 := by rw [hy]; exact permIn_all d dj a e (fun m => m.2 < 1024) he hP (fun t h1 h2 => HSM.out t (by omega)) k (by omega) (by omega)
          have HR : Hid (RowM b dj wr) := hR
          have hwk : IntKind.i64.wrap (k : Int) = (k : Int) := IntWalk.i64_in _ (by omega)
          have HX : Hid (x = dj[k + 1]! ∧ y = dj[k]!) := ⟨hx, hy⟩
          clear hP hIn hR hG hx hy
          go_wp2
          go_still_tail 14, (by kernel_rfl)
          go_wp2_with (refine (HC.out.says x y _ hx2 hy2).mono ?_; rintro z w1 ⟨r, rfl, hr, hg1⟩)
          · have hl : lt x y = true := by assumption
            have hR1 : RowM b dj w1 := HR.out.grown ((grown_drew wr).trans hg1) (by simp)
            have HG1 : Hid (w.grownBy w1 (some b)) := HJ.out.2.2.2.trans (grown_any ((grown_drew wr).trans hg1))
            have c0 := hR1.c0 (k + 1) (by omega)
            have c1 := hR1.c1 (k + 1) (by omega)
            have c2 := hR1.c0 k (by omega)
            have c3 := hR1.c1 k (by omega)
            rw [← HX.out.1] at c0 c1
            rw [← HX.out.2] at c2 c3
            have z0 := hR1.fz ((k + 1) * 2)
            have z1 := hR1.fz ((k + 1) * 2 + 1)
            have z2 := hR1.fz (k * 2)
            have z3 := hR1.fz (k * 2 + 1)
            have HR1 : Hid (RowM b dj w1) := hR1
            have HL : Hid (lt x y = true) := hl
            clear hR1 hg1 hr hl HR
            go_region
            have HR2 : Hid (RowM b (swp dj (k + 1) k) (putM (putM w1 b (k + 1) y) b k x).drew) := (by
              have h := HR1.out.swap (k + 1) k (by omega) (by omega)
              rw [← HX.out.1, ← HX.out.2] at h
              exact h.grown (grown_drew _) (by simp))
            have HG2 : Hid (w.grownBy (putM (putM w1 b (k + 1) y) b k x).drew (some b)) := ((HG1.out.trans (grown_putM _ _ _ _)).trans (grown_putM _ _ _ _)).trans (grown_any (grown_drew _))
            clear c0 c1 c2 c3 z0 z1 z2 z3 HG1 HR1
            go_wp2
            go_roundw
            case rel =>
              refine ⟨k, swp dj (k + 1) k, rfl, by omega, by omega, permIn_trans _ _ _ _ _ HJ.out.1 (swp_permIn dj a e (k + 1) k (by omega) (by omega) (by omega) (by omega) (by omega)), HJ.out.2.1.step (by rw [← HX.out.1, ← HX.out.2]; exact HL.out) (by omega) (by omega), HR2.out, HG2.out⟩
            case measure => simp [intOf]
          · have hl : lt x y = false := by assumption
            go_roundw
            case rel =>
              refine ⟨i + 1, dj, by go_num, by omega, by omega, HJ.out.1, HJ.out.2.1.stop hS (Or.inr (by rw [Nat.add_sub_cancel, ← HX.out.1, ← HX.out.2]; exact hl)), HR.out.grown ((grown_drew wr).trans hg1) (by simp), HJ.out.2.2.2.trans (grown_any ((grown_drew wr).trans hg1))⟩
            case measure => simp [intOf]; omega
        · obtain rfl : j = a := by omega
          have hjj : ¬ (j : Int) < (j : Int) := by omega
          clear hP hIn hR hG
          go_wp2
          go_quiet (fail)
          go_wp2
          go_roundw
          case rel =>
            refine ⟨i + 1, dj, by go_num, by omega, by omega, HJ.out.1, HJ.out.2.1.stop hS (Or.inl (Nat.le_refl _)), HJ.out.2.2.1.grown (grown_drewN wr nq) (by simp), HJ.out.2.2.2.trans (grown_any (grown_drewN wr nq))⟩
          case measure => simp [intOf]; omega
    · have hlti : ¬ (i : Int) < (e : Int) := by omega
      go_wp2
      go_end0
      exact ⟨rfl, dk, HO.out.1, fun p q h1 h2 h3 => HO.out.2.1 p q h1 h2 (by omega), HO.out.2.2.1, HO.out.2.2.2⟩
end Go.Proofs.Ybulkchng
