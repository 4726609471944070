/-
  The stand-in scorer: doc, score, bound, advance.
-/
import Derived.Test.YbulkchngRow
import Derived.Deep.LoopGhost
namespace Go.Proofs.Ybulkchng
open Go.RowKit

/-- Where a scorer's parts lie: its own block, its documents, its scores. -/
structure Lies where
  sb : Nat
  db : Nat
  fb : Nat
  da : Option Addr
  fa : Option Addr
  n : Nat
  dc : Nat
  fc : Nat

/-- The scorer stands at place pos. -/
structure ScorAt (L : Lies) (D S : Nat → Nat) (pos : Int) (w : World) : Prop where
  c0 : w.cell? ⟨L.sb, 0, none⟩ = some (.slice L.da L.n L.dc)
  c1 : w.cell? ⟨L.sb, 1, none⟩ = some (.slice L.fa L.n L.fc)
  c2 : w.cell? ⟨L.sb, 2, none⟩ = some (.int .i64 pos)
  fz : ∀ i, w.frozen? ⟨L.sb, i, none⟩ = false
  da : 0 < L.n → L.da = some ⟨L.db, 0, none⟩
  fa : 0 < L.n → L.fa = some ⟨L.fb, 0, none⟩
  dd : ∀ i, i < L.n → w.cell? ⟨L.db, i, none⟩ = some (.int .i64 (D i))
  ff : ∀ i, i < L.n → w.cell? ⟨L.fb, i, none⟩ = some (.float .f64 (fl (S i)))
  ne1 : L.sb ≠ L.db
  ne2 : L.sb ≠ L.fb

theorem ScorAt.kept {L : Lies} {D S : Nat → Nat} {pos : Int} {w w' : World} {row : Option Nat} (h : ScorAt L D S pos w) (hg : w.grownBy w' row) (h1 : row ≠ some L.sb) (h2 : row ≠ some L.db) (h3 : row ≠ some L.fb) : ScorAt L D S pos w' := by
  have hl := World.block_lt_of_cell? w _ h.c0
  exact ⟨hg.cell h.c0 (fun e => h1 e.symm), hg.cell h.c1 (fun e => h1 e.symm), hg.cell h.c2 (fun e => h1 e.symm), fun i => (World.frozen?_of_block (hg.block L.sb hl (fun e => h1 e.symm))).trans (h.fz i), h.da, h.fa,
    fun i hi => hg.cell (h.dd i hi) (fun e => h2 e.symm), fun i hi => hg.cell (h.ff i hi) (fun e => h3 e.symm), h.ne1, h.ne2⟩

theorem ScorAt.set {L : Lies} {D S : Nat → Nat} {pos : Int} {w : World} (h : ScorAt L D S pos w) (p : Int) : ScorAt L D S p (w.setCell ⟨L.sb, 2, none⟩ (.int .i64 p)) := by
  have n1 := h.ne1; have n2 := h.ne2
  refine ⟨?_, ?_, World.cell?_setCell_same _ _ _ h.c2, fun i => by rw [World.frozen?_setCell]; exact h.fz i, h.da, h.fa, fun i hi => ?_, fun i hi => ?_, h.ne1, h.ne2⟩
  · rw [World.cell?_setCell_other _ _ _ _ (by simp)]; exact h.c0
  · rw [World.cell?_setCell_other _ _ _ _ (by simp)]; exact h.c1
  · rw [World.cell?_setCell_other _ _ _ _ (fun e => n1 (congrArg Addr.block e))]; exact h.dd i hi
  · rw [World.cell?_setCell_other _ _ _ _ (fun e => n2 (congrArg Addr.block e))]; exact h.ff i hi

/-- What doc answers. -/
def docAt (n : Nat) (D : Nat → Nat) (p : Nat) : Int := if p < n then (D p : Int) else 9223372036854775807

set_option maxRecDepth 100000 in
theorem doc_any (L : Lies) (D S : Nat → Nat) (p : Nat) (w : World) (h : ScorAt L D S (p : Int) w) (hp : p ≤ L.n) (hn : L.n ≤ 2048) :
    Calls Yba.prog 61 #[.pointer (some ⟨L.sb, 0, none⟩)] w fun e w' => e = .returned (.int .i64 (docAt L.n D p)) ∧ w.grownBy w' none := by
  obtain ⟨sb, db, fb, da, fa, n, dc, fc⟩ := L
  have c0 := h.c0
  have c2 := h.c2
  by_cases hlt : p < n
  · have e0 := h.da (by simp only; omega)
    simp only at e0 c0 c2 hp hn ⊢
    subst e0
    have c3 := h.dd p hlt
    have hi : (p : Int) < (n : Int) := by omega
    have hd : docAt n D p = (D p : Int) := by unfold docAt; rw [if_pos hlt]
    rw [hd]
    simp only at c3
    clear h hd
    go_enter Yba.func61, Yba.ntmps61
    go_wp2
    go_quiet (fail)
    go_wp2
    go_quiet (fail)
    go_wp2
    go_ret
    exact ⟨rfl, (grown_drewN _ _).trans (grown_drewN _ _)⟩
  · simp only at c0 c2 hp hn ⊢
    have hi : ¬ (p : Int) < (n : Int) := by omega
    have hd : docAt n D p = 9223372036854775807 := by unfold docAt; rw [if_neg hlt]
    rw [hd]
    clear h hd
    go_enter Yba.func61, Yba.ntmps61
    go_wp2
    go_quiet (fail)
    go_wp2
    go_ret
    exact ⟨rfl, grown_drewN _ _⟩

set_option maxRecDepth 100000 in
theorem bound_any (sp : Value) (lo hi : Int) (w : World) : Calls Yba.prog 60 #[sp, .int .i64 lo, .int .i64 hi] w fun e w' => e = .returned (.float .f64 4652007308841189376) ∧ w = w' := by
  go_enter Yba.func60, Yba.ntmps60
  go_wp2
  go_ret
  exact ⟨rfl, rfl⟩

set_option maxRecDepth 100000 in
theorem score_any (L : Lies) (D S : Nat → Nat) (p : Nat) (w : World) (h : ScorAt L D S (p : Int) w) (hp : p < L.n) (hn : L.n ≤ 2048) :
    Calls Yba.prog 62 #[.pointer (some ⟨L.sb, 0, none⟩)] w fun e w' => e = .returned (.float .f64 (fl (S p))) ∧ w.grownBy w' none := by
  obtain ⟨sb, db, fb, da, fa, n, dc, fc⟩ := L
  have c0 := h.c0
  have c1 := h.c1
  have c2 := h.c2
  have e0 := h.fa (by simp only at hp ⊢; omega)
  simp only at e0 c0 c1 c2 hp hn ⊢
  subst e0
  have c3 := h.ff p hp
  have hi : (p : Int) < (n : Int) := by omega
  have h0 : ¬ (p : Int) < 0 := by omega
  have h1 : decide ((n : Int) ≤ (p : Int)) = false := by simp; omega
  simp only at c3
  clear h
  go_enter Yba.func62, Yba.ntmps62
  go_wp2
  go_quiet (fail)
  go_wp2
  go_quiet (fail)
  go_wp2
  go_ret
  exact ⟨rfl, (grown_drewN _ _).trans (grown_drewN _ _)⟩

/-- Place p is where the scorer comes to, from place p0, for the target. -/
structure Comes (n : Nat) (D : Nat → Nat) (p0 : Nat) (target : Int) (p : Nat) : Prop where
  ge : p0 ≤ p
  le : p ≤ n
  low : ∀ i, p0 ≤ i → i < p → (D i : Int) < target
  stop : p = n ∨ target ≤ (D p : Int)

set_option maxHeartbeats 3200000 in
set_option maxRecDepth 100000 in
theorem advance_start (sb db fb : Nat) (da fa : Option Addr) (n dc fc : Nat) (D S : Nat → Nat) (target : Int) (w : World) (h : ScorAt ⟨sb, db, fb, da, fa, n, dc, fc⟩ D S (-1) w) (hn : n ≤ 2048) :
    Calls Yba.prog 59 #[.pointer (some ⟨sb, 0, none⟩), .int .i64 target] w fun e w' => ∃ p : Nat, Comes n D 0 target p ∧ e = .returned (.int .i64 (docAt n D p)) ∧ ScorAt ⟨sb, db, fb, da, fa, n, dc, fc⟩ D S (p : Int) w' ∧ w.grownBy w' (some sb) := by
  have c0 := h.c0
  have c2 := h.c2
  have z2 := h.fz 2
  have hge : decide ((n : Int) ≤ -1) = false := by simp; omega
  simp only at c0 c2 z2
  have HH : Hid (ScorAt ⟨sb, db, fb, da, fa, n, dc, fc⟩ D S (-1) w) := h
  clear h
  go_enter Yba.func59, Yba.ntmps59
  go_wp2
  go_quiet (fail)
  go_wp2
  go_quiet (fail)
  have HW : Hid (∀ q, ScorAt ⟨sb, db, fb, da, fa, n, dc, fc⟩ D S ((0 : Nat) : Int) ((w.drewN q).setCell ⟨sb, 2, none⟩ (.int .i64 0)) ∧ w.grownBy ((w.drewN q).setCell ⟨sb, 2, none⟩ (.int .i64 0)) (some sb)) := fun q =>
    ⟨(HH.out.kept (grown_drewN w q) (by simp) (by simp) (by simp)).set 0, (grown_any (grown_drewN w q)).trans (grown_setCell _ ⟨sb, 2, none⟩ _)⟩
  go_wp2
  clear c0 c2 z2
  go_loopg [52] (n - 0) (fun k _ wq => ∃ p : Nat, p + k = n ∧ 0 ≤ p ∧ (∀ i, 0 ≤ i → i < p → (D i : Int) < target) ∧ ScorAt ⟨sb, db, fb, da, fa, n, dc, fc⟩ D S (p : Int) wq ∧ w.grownBy wq (some sb))
  case atStart => exact ⟨0, by omega, Nat.le_refl _, fun i h1 h2 => by omega, (HW.out _).1, (HW.out _).2⟩
  case round =>
    clear HW
    obtain ⟨p, hpk, hp0, hlow, hS, hG⟩ := hrel
    have HS : Hid (ScorAt ⟨sb, db, fb, da, fa, n, dc, fc⟩ D S (p : Int) wr) := hS
    have HG : Hid (w.grownBy wr (some sb)) := hG
    have HL : Hid (∀ i, 0 ≤ i → i < p → (D i : Int) < target) := hlow
    clear hG hlow
    by_cases hlt : p < n
    · have hlti : (p : Int) < (n : Int) := by omega
      have e0 := hS.da (by simp only; omega)
      simp only at e0
      subst e0
      have c0 := hS.c0
      have c2 := hS.c2
      have c3 := hS.dd p hlt
      have z2 := hS.fz 2
      simp only at c0 c2 c3 z2
      clear hS
      by_cases ht : (D p : Int) < target
      · have hw1 : IntKind.i64.wrap ((p : Int) + 1) = (p : Int) + 1 := IntWalk.i64_in _ (by omega)
        go_wp2
        go_quiet (fail)
        go_wp2
        go_roundg (gk - 1)
        case measure => omega
        case rel =>
          refine ⟨p + 1, by omega, by omega, fun i h1 h2 => ?_, ?_, ?_⟩
          · by_cases e : i = p
            · rw [e]; exact ht
            · exact HL.out i h1 (by omega)
          · have h1 := (HS.out.kept (grown_drewN wr nq) (by simp) (by simp) (by simp)).set ((p : Int) + 1)
            exact h1
          · exact HG.out.trans ((grown_any (grown_drewN wr nq)).trans (grown_setCell _ ⟨sb, 2, none⟩ _))
      · have ht' : ¬ (D p : Int) < target := ht
        have hdi : decide ((D p : Int) < target) = false := decide_eq_false ht
        have HT : Hid (target ≤ (D p : Int)) := show target ≤ (D p : Int) by omega
        clear ht ht'
        go_wp2
        go_quiet (fail)
        have HD : Hid (ScorAt ⟨sb, db, fb, some ⟨db, 0, none⟩, fa, n, dc, fc⟩ D S (p : Int) (wr.drewN nq)) := HS.out.kept (grown_drewN wr nq) (by simp) (by simp) (by simp)
        clear c0 c2 c3 z2
        go_wp2_with (go_at_call 61; refine (doc_any ⟨sb, db, fb, some ⟨db, 0, none⟩, fa, n, dc, fc⟩ D S p (wr.drewN nq) HD.out (by simp only; omega) hn).mono ?_; rintro e w1 ⟨rfl, hg1⟩)
        go_ret
        exact ⟨p, ⟨by omega, by omega, HL.out, Or.inr HT.out⟩, rfl, HD.out.kept hg1 (by simp) (by simp) (by simp), HG.out.trans (grown_any ((grown_drewN wr nq).trans hg1))⟩
    · have hlti : decide ((p : Int) < (n : Int)) = false := by simp; omega
      have HPN : Hid (p = n) := show p = n by omega
      have c0 := hS.c0
      have c2 := hS.c2
      simp only at c0 c2
      clear hS
      go_wp2
      go_quiet (fail)
      have HD : Hid (ScorAt ⟨sb, db, fb, da, fa, n, dc, fc⟩ D S (p : Int) (wr.drewN nq)) := HS.out.kept (grown_drewN wr nq) (by simp) (by simp) (by simp)
      clear c0 c2
      go_wp2_with (go_at_call 61; refine (doc_any ⟨sb, db, fb, da, fa, n, dc, fc⟩ D S p (wr.drewN nq) HD.out (by simp only; omega) hn).mono ?_; rintro e w1 ⟨rfl, hg1⟩)
      go_ret
      exact ⟨p, ⟨by omega, by omega, HL.out, Or.inl HPN.out⟩, rfl, HD.out.kept hg1 (by simp) (by simp) (by simp), HG.out.trans (grown_any ((grown_drewN wr nq).trans hg1))⟩

set_option maxHeartbeats 3200000 in
set_option maxRecDepth 100000 in
theorem advance_on (sb db fb : Nat) (da fa : Option Addr) (n dc fc p0 : Nat) (D S : Nat → Nat) (target : Int) (w : World) (h : ScorAt ⟨sb, db, fb, da, fa, n, dc, fc⟩ D S (p0 : Int) w) (hp : p0 ≤ n) (hn : n ≤ 2048) :
    Calls Yba.prog 59 #[.pointer (some ⟨sb, 0, none⟩), .int .i64 target] w fun e w' => ∃ p : Nat, Comes n D p0 target p ∧ e = .returned (.int .i64 (docAt n D p)) ∧ ScorAt ⟨sb, db, fb, da, fa, n, dc, fc⟩ D S (p : Int) w' ∧ w.grownBy w' (some sb) := by
  have HH : Hid (ScorAt ⟨sb, db, fb, da, fa, n, dc, fc⟩ D S (p0 : Int) w) := h
  by_cases hl0 : p0 < n
  · have e0 := h.da (by simp only; omega)
    simp only at e0
    subst e0
    have c0 := h.c0
    have c2 := h.c2
    have c3 := h.dd p0 hl0
    simp only at c0 c2 c3
    have hge : decide ((n : Int) ≤ (p0 : Int)) = false := by simp; omega
    have hlp : (p0 : Int) < (n : Int) := by omega
    clear h
    by_cases ht0 : target ≤ (D p0 : Int)
    · have hd0 : decide (target ≤ (D p0 : Int)) = true := decide_eq_true ht0
      have HT : Hid (target ≤ (D p0 : Int)) := ht0
      clear ht0
      go_enter Yba.func59, Yba.ntmps59
      go_wp2
      go_quiet (fail)
      go_wp2
      go_quiet (fail)
      go_wp2
      go_quiet (fail)
      go_wp2
      go_ret
      refine ⟨p0, ⟨Nat.le_refl _, hp, fun i h1 h2 => by omega, Or.inr HT.out⟩, ?_, HH.out.kept (((grown_drewN w _).trans (grown_drewN _ _)).trans (grown_drewN _ _)) (by simp) (by simp) (by simp), grown_any (((grown_drewN w _).trans (grown_drewN _ _)).trans (grown_drewN _ _))⟩
      unfold docAt; rw [if_pos hl0]; rfl
    · have hd0 : decide (target ≤ (D p0 : Int)) = false := decide_eq_false ht0
      have HT : Hid (¬ target ≤ (D p0 : Int)) := ht0
      have HW : Hid (∀ W, w.grownBy W none → ScorAt ⟨sb, db, fb, some ⟨db, 0, none⟩, fa, n, dc, fc⟩ D S (p0 : Int) W ∧ w.grownBy W (some sb)) := fun W hW => ⟨HH.out.kept hW (by simp) (by simp) (by simp), grown_any hW⟩
      clear ht0
      go_enter Yba.func59, Yba.ntmps59
      go_wp2
      go_quiet (fail)
      go_wp2
      go_quiet (fail)
      go_wp2
      clear c0 c2 c3
      go_loopg [52] (n - p0) (fun k _ wq => ∃ p : Nat, p + k = n ∧ p0 ≤ p ∧ (∀ i, p0 ≤ i → i < p → (D i : Int) < target) ∧ ScorAt ⟨sb, db, fb, some ⟨db, 0, none⟩, fa, n, dc, fc⟩ D S (p : Int) wq ∧ w.grownBy wq (some sb))
      case atStart => exact ⟨p0, by omega, Nat.le_refl _, fun i h1 h2 => by omega, (HW.out _ (by first | exact grown_drewN _ _ | exact (grown_drewN _ _).trans (grown_drewN _ _))).1, (HW.out _ (by first | exact grown_drewN _ _ | exact (grown_drewN _ _).trans (grown_drewN _ _))).2⟩
      case round =>
        clear HW
        obtain ⟨p, hpk, hp0, hlow, hS, hG⟩ := hrel
        have HS : Hid (ScorAt ⟨sb, db, fb, some ⟨db, 0, none⟩, fa, n, dc, fc⟩ D S (p : Int) wr) := hS
        have HG : Hid (w.grownBy wr (some sb)) := hG
        have HL : Hid (∀ i, p0 ≤ i → i < p → (D i : Int) < target) := hlow
        clear hG hlow
        by_cases hlt : p < n
        · have hlti : (p : Int) < (n : Int) := by omega
          have c0 := hS.c0
          have c2 := hS.c2
          have c3 := hS.dd p hlt
          have z2 := hS.fz 2
          simp only at c0 c2 c3 z2
          clear hS
          by_cases ht : (D p : Int) < target
          · have hw1 : IntKind.i64.wrap ((p : Int) + 1) = (p : Int) + 1 := IntWalk.i64_in _ (by omega)
            go_wp2
            go_quiet (fail)
            go_wp2
            go_roundg (gk - 1)
            case measure => omega
            case rel =>
              refine ⟨p + 1, by omega, by omega, fun i h1 h2 => ?_, ?_, ?_⟩
              · by_cases e : i = p
                · rw [e]; exact ht
                · exact HL.out i h1 (by omega)
              · have h1 := (HS.out.kept (grown_drewN wr nq) (by simp) (by simp) (by simp)).set ((p : Int) + 1)
                exact h1
              · exact HG.out.trans ((grown_any (grown_drewN wr nq)).trans (grown_setCell _ ⟨sb, 2, none⟩ _))
          · have ht' : ¬ (D p : Int) < target := ht
            have hdi : decide ((D p : Int) < target) = false := decide_eq_false ht
            have HT : Hid (target ≤ (D p : Int)) := show target ≤ (D p : Int) by omega
            clear ht ht'
            go_wp2
            go_quiet (fail)
            have HD : Hid (ScorAt ⟨sb, db, fb, some ⟨db, 0, none⟩, fa, n, dc, fc⟩ D S (p : Int) (wr.drewN nq)) := HS.out.kept (grown_drewN wr nq) (by simp) (by simp) (by simp)
            clear c0 c2 c3 z2
            go_wp2_with (go_at_call 61; refine (doc_any ⟨sb, db, fb, some ⟨db, 0, none⟩, fa, n, dc, fc⟩ D S p (wr.drewN nq) HD.out (by simp only; omega) hn).mono ?_; rintro e w1 ⟨rfl, hg1⟩)
            go_ret
            exact ⟨p, ⟨by omega, by omega, HL.out, Or.inr HT.out⟩, rfl, HD.out.kept hg1 (by simp) (by simp) (by simp), HG.out.trans (grown_any ((grown_drewN wr nq).trans hg1))⟩
        · have hlti : decide ((p : Int) < (n : Int)) = false := by simp; omega
          have HPN : Hid (p = n) := show p = n by omega
          have c0 := hS.c0
          have c2 := hS.c2
          simp only at c0 c2
          clear hS
          go_wp2
          go_quiet (fail)
          have HD : Hid (ScorAt ⟨sb, db, fb, some ⟨db, 0, none⟩, fa, n, dc, fc⟩ D S (p : Int) (wr.drewN nq)) := HS.out.kept (grown_drewN wr nq) (by simp) (by simp) (by simp)
          clear c0 c2
          go_wp2_with (go_at_call 61; refine (doc_any ⟨sb, db, fb, some ⟨db, 0, none⟩, fa, n, dc, fc⟩ D S p (wr.drewN nq) HD.out (by simp only; omega) hn).mono ?_; rintro e w1 ⟨rfl, hg1⟩)
          go_ret
          exact ⟨p, ⟨by omega, by omega, HL.out, Or.inl HPN.out⟩, rfl, HD.out.kept hg1 (by simp) (by simp) (by simp), HG.out.trans (grown_any ((grown_drewN wr nq).trans hg1))⟩
  · have c0 := h.c0
    have c2 := h.c2
    simp only at c0 c2
    have hge : decide ((n : Int) ≤ (p0 : Int)) = true := by simp; omega
    clear h
    go_enter Yba.func59, Yba.ntmps59
    go_wp2
    go_quiet (fail)
    go_wp2
    go_ret
    refine ⟨p0, ⟨Nat.le_refl _, hp, fun i h1 h2 => by omega, Or.inl (by omega)⟩, ?_, HH.out.kept (grown_drewN w _) (by simp) (by simp) (by simp), grown_any (grown_drewN w _)⟩
    unfold docAt; rw [if_neg hl0]; rfl
end Go.Proofs.Ybulkchng
