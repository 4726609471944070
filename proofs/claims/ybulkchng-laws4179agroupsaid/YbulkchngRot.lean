/-
  slices.swapRangeCmpFunc and slices.rotateCmpFunc over a row of matches.
-/
import Derived.Test.YbulkchngRow
namespace Go.Proofs.Ybulkchng
open Go.RowKit Go.Sort
attribute [local go_sem] run_store_float

/-- Two ranges of n, changed for each other: whence place t has what it has. -/
def swapI (a b n t : Nat) : Nat := if a ≤ t ∧ t < a + n then t + (b - a) else if b ≤ t ∧ t < b + n then t - (b - a) else t
/-- The ranges [a, m) and [m, e), changed for each other. -/
def rotI (a m e t : Nat) : Nat := if a ≤ t ∧ t < a + (e - m) then t + (m - a) else if a + (e - m) ≤ t ∧ t < e then t - (e - m) else t

theorem swapI_zero (a b t : Nat) : swapI a b 0 t = t := by unfold swapI; rw [if_neg (by omega), if_neg (by omega)]
theorem swapI_succ (a b n t : Nat) (h : a + (n + 1) ≤ b) : swapI a b (n + 1) t = if t = b + n then swapI a b n (a + n) else if t = a + n then swapI a b n (b + n) else swapI a b n t := by
  unfold swapI
  repeat (split <;> try omega)
theorem swap_step (d : Array Mt) (f : Nat → Mt) (a b n : Nat) (h : a + (n + 1) ≤ b) (hb : b + n < d.size) (hd : ∀ t, d[t]! = f (swapI a b n t)) (t : Nat) : (swp d (a + n) (b + n))[t]! = f (swapI a b (n + 1) t) := by
  rw [swp_get d (show a + n < d.size by omega) hb t, swapI_succ a b n t h]
  by_cases e1 : t = b + n
  · rw [if_pos e1, if_pos e1, hd]
  · rw [if_neg e1, if_neg e1]
    by_cases e2 : t = a + n
    · rw [if_pos e2, if_pos e2, hd]
    · rw [if_neg e2, if_neg e2, hd]

theorem rot_left (a i j t : Nat) (h : j < i) : rotI a (a + i) (a + i + j) t = swapI a (a + i) j (rotI (a + j) (a + i) (a + i + j) t) := by
  unfold rotI swapI
  repeat (split <;> try omega)
theorem rot_right (a i j t : Nat) (h : i < j) : rotI a (a + i) (a + i + j) t = swapI a (a + j) i (rotI a (a + i) (a + j) t) := by
  unfold rotI swapI
  repeat (split <;> try omega)
theorem rot_even (a i t : Nat) : rotI a (a + i) (a + i + i) t = swapI a (a + i) i t := by
  unfold rotI swapI
  repeat (split <;> try omega)

set_option maxHeartbeats 1600000 in
set_option maxRecDepth 100000 in
theorem swapRange {F : Nat} (b cap p q n : Nat) (d : Array Mt) (w : World) (hR : RowM b d w) (hpq : p + n ≤ q) (hq : q + n ≤ d.size) (hsz : d.size ≤ 2048) :
    Calls Yba.prog 39 #[.slice (some ⟨b, 0, none⟩) d.size cap, .int .i64 p, .int .i64 q, .int .i64 n, .func (.func F) #[] #[]] w fun x w' => x = .returned (.tuple #[]) ∧ ∃ d', PermIn p (q + n) d d' ∧ (∀ t, d'[t]! = d[swapI p q n t]!) ∧ RowM b d' w' ∧ w.grownBy w' (some b) := by
  have HI : Hid (RowM b d w) := hR
  clear hR
  go_enter Yba.func39, Yba.ntmps39
  go_wp2
  go_loopw [10] (fun vi wr => ∃ (i : Nat) (dk : Array Mt), vi = .int .i64 i ∧ i ≤ n ∧ PermIn p (q + n) d dk ∧ (∀ t, dk[t]! = d[swapI p q i t]!) ∧ RowM b dk wr ∧ w.grownBy wr (some b)) (fun vi _ => n - (intOf vi).toNat)
  case atStart => exact ⟨0, d, rfl, Nat.zero_le _, permIn_refl _ _ _, fun t => by rw [swapI_zero], HI.out, grown_refl _ _⟩
  case round =>
    obtain ⟨i, dk, rfl, hin, hP, hat, hR, hG⟩ := hrel
    have HO : Hid (PermIn p (q + n) d dk ∧ (∀ t, dk[t]! = d[swapI p q i t]!) ∧ RowM b dk wr ∧ w.grownBy wr (some b)) := ⟨hP, hat, hR, hG⟩
    have hsj : dk.size = d.size := hP.1
    by_cases hlt : i < n
    · have hlti : (i : Int) < (n : Int) := by omega
      obtain ⟨x, hx⟩ : ∃ x, x = dk[p + i]! := ⟨_, rfl⟩
      obtain ⟨y, hy⟩ : ∃ y, y = dk[q + i]! := ⟨_, rfl⟩
      have c0 := hR.c0 (p + i) (by omega)
      have c1 := hR.c1 (p + i) (by omega)
      have c2 := hR.c0 (q + i) (by omega)
      have c3 := hR.c1 (q + i) (by omega)
      rw [← hx] at c0 c1
      rw [← hy] at c2 c3
      have z0 := hR.fz ((p + i) * 2)
      have z1 := hR.fz ((p + i) * 2 + 1)
      have z2 := hR.fz ((q + i) * 2)
      have z3 := hR.fz ((q + i) * 2 + 1)
      have hb1 : (p : Int) + (i : Int) < (d.size : Int) := by omega
      have hb2 : (q : Int) + (i : Int) < (d.size : Int) := by omega
      have hb3 : (0 : Int) ≤ (p : Int) + (i : Int) := by omega
      have hb4 : (0 : Int) ≤ (q : Int) + (i : Int) := by omega
      have hw1 : IntKind.i64.wrap ((p : Int) + (i : Int)) = (p : Int) + (i : Int) := IntWalk.i64_in _ (by omega)
      have hw2 : IntKind.i64.wrap ((q : Int) + (i : Int)) = (q : Int) + (i : Int) := IntWalk.i64_in _ (by omega)
      have n2 : ¬ (q + i) * 2 = (p + i) * 2 := by omega
      have n3 : ¬ (q + i) * 2 = (p + i) * 2 + 1 := by omega
      have n4 : ¬ (q + i) * 2 + 1 = (p + i) * 2 := by omega
      have n5 : ¬ (q + i) * 2 + 1 = (p + i) * 2 + 1 := by omega
      have HX : Hid (x = dk[p + i]! ∧ y = dk[q + i]!) := ⟨hx, hy⟩
      clear hP hat hR hG hx hy
      go_wp2
      go_region
      have HR2 : Hid (RowM b (swp dk (p + i) (q + i)) (putM (putM wr b (p + i) y) b (q + i) x).drew) := (by
        have h := HO.out.2.2.1.swap (p + i) (q + i) (by omega) (by omega)
        rw [← HX.out.1, ← HX.out.2] at h
        exact h.grown (grown_drew _) (by simp))
      have HG2 : Hid (w.grownBy (putM (putM wr b (p + i) y) b (q + i) x).drew (some b)) := ((HO.out.2.2.2.trans (grown_putM _ _ _ _)).trans (grown_putM _ _ _ _)).trans (grown_any (grown_drew _))
      clear c0 c1 c2 c3 z0 z1 z2 z3
      go_wp2
      go_roundw
      case rel =>
        exact ⟨i + 1, swp dk (p + i) (q + i), by go_num, by omega, permIn_trans _ _ _ _ _ HO.out.1 (swp_permIn dk p (q + n) (p + i) (q + i) (by omega) (by omega) (by omega) (by omega) (by omega)),
          swap_step dk (fun t => d[t]!) p q i (by omega) (by omega) HO.out.2.1, HR2.out, HG2.out⟩
      case measure => simp [intOf]; omega
    · have hlti : ¬ (i : Int) < (n : Int) := by omega
      obtain rfl : i = n := by omega
      clear hP hat hR hG
      go_wp2
      go_end0
      exact ⟨rfl, dk, HO.out.1, HO.out.2.1, HO.out.2.2.1, HO.out.2.2.2⟩

/-- The same, as a caller meets it. -/
theorem swapRange' {F : Nat} (b cap len p q n : Nat) (vp vq vn : Int) (d : Array Mt) (w : World) (hl : d.size = len) (ep : vp = (p : Int)) (eq : vq = (q : Int)) (en : vn = (n : Int)) (hR : RowM b d w) (hpq : p + n ≤ q) (hq : q + n ≤ len) (hsz : len ≤ 2048) :
    Calls Yba.prog 39 #[.slice (some ⟨b, 0, none⟩) len cap, .int .i64 vp, .int .i64 vq, .int .i64 vn, .func (.func F) #[] #[]] w fun x w' => x = .returned (.tuple #[]) ∧ ∃ d', PermIn p (q + n) d d' ∧ (∀ t, d'[t]! = d[swapI p q n t]!) ∧ RowM b d' w' ∧ w.grownBy w' (some b) := by
  subst hl; subst ep; subst eq; subst en
  exact swapRange b cap p q n d w hR hpq hq hsz

set_option maxHeartbeats 1600000 in
set_option maxRecDepth 100000 in
theorem rotate {F : Nat} (b cap a m e : Nat) (d : Array Mt) (w : World) (hR : RowM b d w) (ham : a < m) (hme : m < e) (he : e ≤ d.size) (hsz : d.size ≤ 2048) :
    Calls Yba.prog 34 #[.slice (some ⟨b, 0, none⟩) d.size cap, .int .i64 a, .int .i64 m, .int .i64 e, .func (.func F) #[] #[]] w fun x w' => x = .returned (.tuple #[]) ∧ ∃ d', PermIn a e d d' ∧ (∀ t, d'[t]! = d[rotI a m e t]!) ∧ RowM b d' w' ∧ w.grownBy w' (some b) := by
  have HI : Hid (RowM b d w) := hR
  clear hR
  go_enter Yba.func34, Yba.ntmps34
  go_wp2
  go_loopw [10, 11] (fun vi vj wr => ∃ (i j : Nat) (dk : Array Mt), vi = .int .i64 i ∧ vj = .int .i64 j ∧ 0 < i ∧ 0 < j ∧ i + a ≤ m ∧ m + j ≤ e ∧ PermIn a e d dk ∧ (∀ t, d[rotI a m e t]! = dk[rotI (m - i) m (m + j) t]!) ∧ RowM b dk wr ∧ w.grownBy wr (some b)) (fun vi vj _ => (intOf vi).toNat + (intOf vj).toNat)
  case atStart =>
    refine ⟨m - a, e - m, d, by congr 1; omega, by congr 1; omega, by omega, by omega, by omega, by omega, permIn_refl _ _ _, fun t => ?_, HI.out, grown_refl _ _⟩
    rw [show m - (m - a) = a by omega, show m + (e - m) = e by omega]
  case round =>
    obtain ⟨i, j, dk, rfl, rfl, hi, hj, hia, hje, hP, hat, hR, hG⟩ := hrel
    have HO : Hid (PermIn a e d dk ∧ (∀ t, d[rotI a m e t]! = dk[rotI (m - i) m (m + j) t]!) ∧ RowM b dk wr ∧ w.grownBy wr (some b)) := ⟨hP, hat, hR, hG⟩
    have hsj : Hid (dk.size = d.size) := hP.1
    clear hP hat hR hG
    by_cases hij : i = j
    · subst hij
      go_wp2_with (go_at_call 39; refine (swapRange' b cap d.size (m - i) m i _ _ _ dk wr hsj.out (by omega) (by omega) (by omega) HO.out.2.2.1 (by omega) (by omega) hsz).mono ?_; rintro z w1 ⟨rfl, d1, hP1, hat1, hR1, hG1⟩)
      go_end0
      refine ⟨rfl, d1, permIn_trans _ _ _ _ _ HO.out.1 (permIn_mono _ _ _ _ _ _ (by omega) (by omega) (by have := hsj.out; omega) hP1), fun t => ?_, hR1, HO.out.2.2.2.trans hG1⟩
      rw [hat1, HO.out.2.1]
      have := rot_even (m - i) i t
      rw [show m - i + i = m by omega] at this
      rw [this]
    · by_cases hgt : j < i
      · have h1 : ¬ (i : Int) = (j : Int) := by omega
        have h2 : (j : Int) < (i : Int) := by omega
        go_wp2_with (go_at_call 39; refine (swapRange' b cap d.size (m - i) m j _ _ _ dk wr hsj.out (by omega) (by omega) (by omega) HO.out.2.2.1 (by omega) (by omega) hsz).mono ?_; rintro z w1 ⟨rfl, d1, hP1, hat1, hR1, hG1⟩)
        go_roundw
        case rel =>
          refine ⟨i - j, j, d1, by congr 1; omega, rfl, by omega, hj, by omega, by omega, permIn_trans _ _ _ _ _ HO.out.1 (permIn_mono _ _ _ _ _ _ (by omega) (by omega) (by have := hsj.out; omega) hP1), fun t => ?_, hR1, HO.out.2.2.2.trans hG1⟩
          rw [hat1, HO.out.2.1]
          have := rot_left (m - i) i j t hgt
          rw [show m - i + i = m by omega, show m - i + j = m - (i - j) by omega] at this
          rw [this]
        case measure => simp [intOf]; omega
      · have h1 : ¬ (i : Int) = (j : Int) := by omega
        have h2 : ¬ (j : Int) < (i : Int) := by omega
        go_wp2_with (go_at_call 39; refine (swapRange' b cap d.size (m - i) (m + j - i) i _ _ _ dk wr hsj.out (by omega) (by omega) (by omega) HO.out.2.2.1 (by omega) (by omega) hsz).mono ?_; rintro z w1 ⟨rfl, d1, hP1, hat1, hR1, hG1⟩)
        go_roundw
        case rel =>
          refine ⟨i, j - i, d1, rfl, by congr 1; omega, hi, by omega, by omega, by omega, permIn_trans _ _ _ _ _ HO.out.1 (permIn_mono _ _ _ _ _ _ (by omega) (by omega) (by have := hsj.out; omega) hP1), fun t => ?_, hR1, HO.out.2.2.2.trans hG1⟩
          rw [hat1, HO.out.2.1]
          have := rot_right (m - i) i j t (by omega)
          rw [show m - i + i = m by omega, show m - i + j = m + (j - i) by omega] at this
          rw [this, show m + j - i = m + (j - i) by omega]
        case measure => simp [intOf]; omega
end Go.Proofs.Ybulkchng
