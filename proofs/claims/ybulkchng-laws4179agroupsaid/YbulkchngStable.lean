/-
  slices.stableCmpFunc and slices.SortStableFunc over a row of matches.
-/
import Derived.Test.YbulkchngSymD
namespace Go.Proofs.Ybulkchng
open Go.RowKit Go.Sort

variable {lt : Mt → Mt → Bool}

/-- symMerge, whatever its three places. -/
theorem merges {F : Nat} (hF : Cmps F lt) (hS : SWO lt) (b cap len : Nat) (hsz : len ≤ 2048) : ∀ n, MergesBelow F lt b cap n len := by
  intro n
  induction n with
  | zero => intro a m e d w _ _ h; omega
  | succ n ih =>
    intro a m e d w ham hme hlt he hd hR hsm hs1 hs2
    have ih' : MergesBelow F lt b cap (e - a) d.size := by
      rw [hd]
      intro a' m' e' d' w' q1 q2 q3 q4 q5 q6 q7 q8 q9
      exact ih a' m' e' d' w' q1 q2 (by omega) q4 q5 q6 q7 q8 q9
    by_cases c1 : m = a + 1
    · exact symA hF hS b cap a m e d w hR hsm c1 hme (by omega) (by omega) hs2
    by_cases c2 : e = m + 1
    · exact symB hF hS b cap a m e d w hR hsm (by omega) c2 (by omega) (by omega) hs1
    by_cases c3 : m ≤ (a + e) / 2
    · exact symC1 hF hS b cap a m e ((a + e) / 2) d w hR hsm (by omega) (by omega) (by omega) (by omega) hs1 hs2 (by omega) c3 ih'
    · exact symC2 hF hS b cap a m e ((a + e) / 2) d w hR hsm (by omega) (by omega) (by omega) (by omega) hs1 hs2 (by omega) (by omega) ih'

theorem merge_call {F : Nat} (hF : Cmps F lt) (hS : SWO lt) (b cap len a m e : Nat) (va vm ve : Int) (d : Array Mt) (w : World) (hd : d.size = len) (ea : va = (a : Int)) (em : vm = (m : Int)) (ee : ve = (e : Int)) (hsz : len ≤ 2048) (ham : a < m) (hme : m < e) (he : e ≤ len)
    (hR : RowM b d w) (hsm : ∀ t, t < d.size → d[t]!.2 < 1024) (hs1 : SortedIn lt a m d) (hs2 : SortedIn lt m e d) :
    Calls Yba.prog 23 #[.slice (some ⟨b, 0, none⟩) len cap, .int .i64 va, .int .i64 vm, .int .i64 ve, .func (.func F) #[] #[]] w fun x w' => x = .returned (.tuple #[]) ∧ ∃ d', PermIn a e d d' ∧ SortedIn lt a e d' ∧ RowM b d' w' ∧ w.grownBy w' (some b) :=
  (merges hF hS b cap len hsz (e - a + 1) a m e d w ham hme (by omega) he hd hR hsm hs1 hs2).at_ hd va vm ve ea em ee
theorem insertion' {F : Nat} (hF : Cmps F lt) (hS : SWO lt) (b cap len a e : Nat) (va ve : Int) (d : Array Mt) (w : World) (hd : d.size = len) (ea : va = (a : Int)) (ee : ve = (e : Int)) (hR : RowM b d w) (hsm : ∀ t, t < d.size → d[t]!.2 < 1024) (hae : a ≤ e) (he : e ≤ len) (hsz : len ≤ 2048) :
    Calls Yba.prog 22 #[.slice (some ⟨b, 0, none⟩) len cap, .int .i64 va, .int .i64 ve, .func (.func F) #[] #[]] w fun x w' => x = .returned (.tuple #[]) ∧ ∃ d', PermIn a e d d' ∧ SortedIn lt a e d' ∧ RowM b d' w' ∧ w.grownBy w' (some b) := by
  subst hd; subst ea; subst ee
  exact insertion hF hS b cap a e d w hR hsm hae he hsz

/-- The blocks of bs that end by 'up' are ascending. -/
def DoneTo (lt : Mt → Mt → Bool) (d : Array Mt) (bs up : Nat) : Prop := ∀ k, (k + 1) * bs ≤ up → SortedIn lt (k * bs) (k * bs + bs) d
/-- The blocks of bs from 'lo' on are ascending. -/
def RestFrom (lt : Mt → Mt → Bool) (d : Array Mt) (bs lo n : Nat) : Prop := ∀ k, lo ≤ k * bs → SortedIn lt (k * bs) (min (k * bs + bs) n) d

theorem sorted_kept {a e p q : Nat} {d d' : Array Mt} (h : SortedIn lt p q d) (hP : PermIn a e d d') (hm : e ≤ p ∨ q ≤ a) : SortedIn lt p q d' := fun i j h1 h2 h3 => by
  rw [hP.2.1 i (by omega), hP.2.1 j (by omega)]; exact h i j h1 h2 h3
theorem sorted_empty {p q : Nat} {d : Array Mt} (h : q ≤ p + 1) : SortedIn lt p q d := fun i j h1 h2 h3 => by omega

theorem le_of_blocks {k k0 bs : Nat} (hb : 0 < bs) (h : (k + 1) * bs ≤ (k0 + 1) * bs) : k ≤ k0 := by
  have := Nat.le_of_mul_le_mul_right h hb; omega
theorem succ_blocks (k bs : Nat) : (k + 1) * bs = k * bs + bs := Nat.succ_mul k bs

/-- One more block. -/
theorem DoneTo.step {d d' : Array Mt} {bs k0 : Nat} (hb : 0 < bs) (h : DoneTo lt d bs (k0 * bs)) (hP : PermIn (k0 * bs) (k0 * bs + bs) d d') (hs : SortedIn lt (k0 * bs) (k0 * bs + bs) d') : DoneTo lt d' bs ((k0 + 1) * bs) := fun k hk => by
  have hk0 := le_of_blocks hb hk
  by_cases e : k = k0
  · subst e; exact hs
  · have h1 : (k + 1) * bs ≤ k0 * bs := Nat.mul_le_mul_right _ (by omega)
    exact sorted_kept (h k h1) hP (Or.inr (by rw [succ_blocks] at h1; exact h1))
/-- The last, shorter block. -/
theorem DoneTo.all {d d' : Array Mt} {bs k0 n : Nat} (h : DoneTo lt d bs (k0 * bs)) (hP : PermIn (k0 * bs) n d d') (hs : SortedIn lt (k0 * bs) n d') (hn : n < k0 * bs + bs) : RestFrom lt d' bs 0 n := fun k _ => by
  rcases Nat.lt_trichotomy k k0 with e | e | e
  · have h1 : (k + 1) * bs ≤ k0 * bs := Nat.mul_le_mul_right _ (by omega)
    have h2 := h1
    rw [succ_blocks] at h2
    have h3 := sorted_kept (h k h1) hP (Or.inr h2)
    exact fun i j q1 q2 q3 => h3 i j q1 q2 (by omega)
  · subst e; rw [Nat.min_eq_right (by omega)]; exact hs
  · have h1 : (k0 + 1) * bs ≤ k * bs := Nat.mul_le_mul_right _ (by omega)
    rw [succ_blocks] at h1
    exact sorted_empty (by omega)
theorem RestFrom.kept {d d' : Array Mt} {bs lo n a e : Nat} (h : RestFrom lt d bs lo n) (hP : PermIn a e d d') (lo' : Nat) (hl : lo ≤ lo') (he : e ≤ lo') : RestFrom lt d' bs lo' n := fun k hk => sorted_kept (h k (by omega)) hP (Or.inl (by omega))
theorem RestFrom.left {d : Array Mt} {bs k0 n : Nat} (h : RestFrom lt d bs (k0 * (2 * bs)) n) (e : Nat) (he : e ≤ k0 * (2 * bs) + bs) (hn : e ≤ n) : SortedIn lt (k0 * (2 * bs)) e d := by
  have e1 : (k0 * 2) * bs = k0 * (2 * bs) := Nat.mul_assoc _ _ _
  have := h (k0 * 2) (by rw [e1]; exact Nat.le_refl _)
  rw [e1] at this
  exact fun i j q1 q2 q3 => this i j q1 q2 (by omega)
theorem RestFrom.right {d : Array Mt} {bs k0 n : Nat} (h : RestFrom lt d bs (k0 * (2 * bs)) n) (e : Nat) (he : e ≤ k0 * (2 * bs) + 2 * bs) (hn : e ≤ n) : SortedIn lt (k0 * (2 * bs) + bs) e d := by
  have e1 : (k0 * 2 + 1) * bs = k0 * (2 * bs) + bs := by rw [succ_blocks, Nat.mul_assoc]
  have := h (k0 * 2 + 1) (by rw [e1]; omega)
  rw [e1] at this
  exact fun i j q1 q2 q3 => this i j q1 q2 (by omega)
theorem DoneTo.zero {d : Array Mt} {bs : Nat} (hb : 0 < bs) : DoneTo lt d bs (0 * bs) := fun k hk => by
  have : (k + 1) * bs = k * bs + bs := succ_blocks k bs
  omega

set_option maxHeartbeats 6400000 in
set_option maxRecDepth 100000 in
theorem stable {F : Nat} (hF : Cmps F lt) (hS : SWO lt) (b cap n : Nat) (d : Array Mt) (w : World) (hn : d.size = n) (hR : RowM b d w) (hsm : ∀ t, t < d.size → d[t]!.2 < 1024) (hsz : n ≤ 1024) :
    Calls Yba.prog 18 #[.slice (some ⟨b, 0, none⟩) n cap, .int .i64 n, .func (.func F) #[] #[]] w fun x w' => x = .returned (.tuple #[]) ∧ ∃ d', PermIn 0 n d d' ∧ SortedIn lt 0 n d' ∧ RowM b d' w' ∧ w.grownBy w' (some b) := by
  have HI : Hid (RowM b d w) := hR
  have HSM : Hid (∀ t, t < d.size → d[t]!.2 < 1024) := hsm
  have HC : Hid (Cmps F lt) := hF
  have HN : Hid (d.size = n) := hn
  clear hR hsm hF hn
  go_enter Yba.func18, Yba.ntmps18
  go_wp2
  go_loopw [7, 8] (fun va vb wr => ∃ (k : Nat) (dk : Array Mt), va = .int .i64 ((k * 20 : Nat) : Int) ∧ vb = .int .i64 ((k * 20 + 20 : Nat) : Int) ∧ k * 20 ≤ n ∧ PermIn 0 n d dk ∧ DoneTo lt dk 20 (k * 20) ∧ RowM b dk wr ∧ w.grownBy wr (some b)) (fun va _ _ => n - (intOf va).toNat)
  case atStart => exact ⟨0, d, rfl, rfl, by omega, permIn_refl _ _ _, DoneTo.zero (by omega), HI.out, grown_refl _ _⟩
  case round =>
    obtain ⟨k, dk, rfl, rfl, hkn, hP, hD, hR, hG⟩ := hrel
    obtain ⟨a, ha⟩ : ∃ a, a = k * 20 := ⟨_, rfl⟩
    have HO : Hid (a = k * 20 ∧ PermIn 0 n d dk ∧ DoneTo lt dk 20 (k * 20) ∧ RowM b dk wr ∧ w.grownBy wr (some b) ∧ dk.size = n ∧ ∀ t, t < dk.size → dk[t]!.2 < 1024) := ⟨ha, hP, hD, hR, hG, hP.1.trans HN.out, smallM d dk HSM.out (by have := HN.out; omega) hP⟩
    rw [← ha] at hkn ⊢
    clear hP hD hR hG ha
    by_cases hlt : a + 20 ≤ n
    · have hlti : (a : Int) + 20 ≤ (n : Int) := by omega
      go_wp2_with (go_at_call 22; refine (insertion' HC.out hS b cap n a (a + 20) _ _ dk wr HO.out.2.2.2.2.2.1 (by omega) (by omega) HO.out.2.2.2.1 HO.out.2.2.2.2.2.2 (by omega) (by omega) (by omega)).mono ?_; rintro z w1 ⟨rfl, d1, hP1, hs1, hR1, hG1⟩)
      go_roundw
      case rel =>
        have e1 := HO.out.1
        refine ⟨k + 1, d1, by congr 1; omega, by congr 1; omega, by omega, permIn_trans _ _ _ _ _ HO.out.2.1 (permIn_mono _ _ _ _ _ _ (by omega) (by omega) (by have := HO.out.2.2.2.2.2.1; omega) hP1), ?_, hR1, HO.out.2.2.2.2.1.trans hG1⟩
        rw [e1] at hP1 hs1
        exact HO.out.2.2.1.step (by omega) hP1 hs1
      case measure => simp [intOf]; omega
    · have hlti : ¬ (a : Int) + 20 ≤ (n : Int) := by omega
      go_wp2_with (go_at_call 22; refine (insertion' HC.out hS b cap n a n _ _ dk wr HO.out.2.2.2.2.2.1 (by omega) (by omega) HO.out.2.2.2.1 HO.out.2.2.2.2.2.2 (by omega) (by omega) (by omega)).mono ?_; rintro z w1 ⟨rfl, d1, hP1, hs1, hR1, hG1⟩)
      have H1 : Hid (PermIn 0 n d d1 ∧ RestFrom lt d1 20 0 n ∧ RowM b d1 w1 ∧ w.grownBy w1 (some b)) := (by
        have e1 := HO.out.1
        refine ⟨permIn_trans _ _ _ _ _ HO.out.2.1 (permIn_mono _ _ _ _ _ _ (by omega) (by omega) (by have := HO.out.2.2.2.2.2.1; omega) hP1), ?_, hR1, HO.out.2.2.2.2.1.trans hG1⟩
        rw [e1] at hP1 hs1
        exact HO.out.2.2.1.all hP1 hs1 (by omega))
      clear hP1 hs1 hR1 hG1 HO
      go_loopw [6] (fun vb wr => ∃ (bs : Nat) (dk : Array Mt), vb = .int .i64 bs ∧ 0 < bs ∧ bs ≤ 4096 ∧ PermIn 0 n d dk ∧ RestFrom lt dk bs 0 n ∧ RowM b dk wr ∧ w.grownBy wr (some b)) (fun vb _ => n - (intOf vb).toNat)
      case atStart => exact ⟨20, d1, rfl, by omega, by omega, H1.out.1, H1.out.2.1, H1.out.2.2.1, H1.out.2.2.2⟩
      case round =>
        clear H1
        obtain ⟨bs, dk, rfl, hbs, hbb, hP, hRF, hR, hG⟩ := hrel
        have HO : Hid (PermIn 0 n d dk ∧ RestFrom lt dk bs 0 n ∧ RowM b dk wr ∧ w.grownBy wr (some b)) := ⟨hP, hRF, hR, hG⟩
        clear hP hRF hR hG
        by_cases hlt : bs < n
        · have hlti : (bs : Int) < (n : Int) := by omega
          go_wp2
          go_loopw [7, 8] (fun va vb wq => ∃ (k : Nat) (dk : Array Mt), va = .int .i64 ((k * (2 * bs) : Nat) : Int) ∧ vb = .int .i64 ((k * (2 * bs) + 2 * bs : Nat) : Int) ∧ k * (2 * bs) ≤ n ∧ PermIn 0 n d dk ∧ DoneTo lt dk (2 * bs) (k * (2 * bs)) ∧ RestFrom lt dk bs (k * (2 * bs)) n ∧ RowM b dk wq ∧ w.grownBy wq (some b)) (fun va _ _ => n - (intOf va).toNat)
          case atStart => exact ⟨0, dk, by simp, by simp, by simp, HO.out.1, DoneTo.zero (by omega), by rw [Nat.zero_mul]; exact HO.out.2.1, HO.out.2.2.1, HO.out.2.2.2⟩
          case round =>
            clear HO
            obtain ⟨k, dk, rfl, rfl, hkn, hP, hD, hRF, hR, hG⟩ := hrel
            obtain ⟨a, ha⟩ : ∃ a, a = k * (2 * bs) := ⟨_, rfl⟩
            have HO : Hid (a = k * (2 * bs) ∧ PermIn 0 n d dk ∧ DoneTo lt dk (2 * bs) (k * (2 * bs)) ∧ RestFrom lt dk bs (k * (2 * bs)) n ∧ RowM b dk wr ∧ w.grownBy wr (some b)) := ⟨ha, hP, hD, hRF, hR, hG⟩
            have HZ : Hid (dk.size = n) := hP.1.trans HN.out
            have HSm : Hid (∀ t, t < dk.size → dk[t]!.2 < 1024) := smallM d dk HSM.out (by have := HN.out; omega) hP
            rw [← ha] at hkn ⊢
            clear hP hD hRF hR hG ha
            by_cases hlt2 : a + 2 * bs ≤ n
            · have hlt2i : (a : Int) + 2 * (bs : Int) ≤ (n : Int) := by omega
              have HM : Hid (SortedIn lt a (a + bs) dk ∧ SortedIn lt (a + bs) (a + 2 * bs) dk) := (by
                have e1 := HO.out.1
                rw [e1] at hlt2 ⊢
                exact ⟨HO.out.2.2.2.1.left _ (Nat.le_refl _) (by omega), HO.out.2.2.2.1.right _ (Nat.le_refl _) (by omega)⟩)
              go_wp2_with (go_at_call 23; refine (merge_call HC.out hS b cap n a (a + bs) (a + 2 * bs) _ _ _ dk wr HZ.out (by omega) (by omega) (by omega) (by omega) (by omega) (by omega) (by omega) HO.out.2.2.2.2.1 HSm.out HM.out.1 HM.out.2).mono ?_; rintro z w1 ⟨rfl, d1, hP1, hs1, hR1, hG1⟩)
              go_roundw
              case rel =>
                have e1 := HO.out.1
                have e2 : (k + 1) * (2 * bs) = a + 2 * bs := by rw [succ_blocks, ← e1]
                refine ⟨k + 1, d1, by rw [e2]; congr 1, by rw [e2]; congr 1, by omega, permIn_trans _ _ _ _ _ HO.out.2.1 (permIn_mono _ _ _ _ _ _ (by omega) (by omega) (by have := HZ.out; omega) hP1), ?_, ?_, hR1, HO.out.2.2.2.2.2.trans hG1⟩
                · rw [e1] at hP1 hs1
                  exact HO.out.2.2.1.step (by omega) hP1 hs1
                · exact HO.out.2.2.2.1.kept hP1 _ (by rw [e2, ← e1]; omega) (by rw [e2]; omega)
              case measure => simp [intOf]; omega
            · have hlt2i : ¬ (a : Int) + 2 * (bs : Int) ≤ (n : Int) := by omega
              by_cases hlt3 : a + bs < n
              · have hlt3i : (a : Int) + (bs : Int) < (n : Int) := by omega
                have HM : Hid (SortedIn lt a (a + bs) dk ∧ SortedIn lt (a + bs) n dk) := (by
                  have e1 := HO.out.1
                  rw [e1] at hlt2 hlt3 ⊢
                  exact ⟨HO.out.2.2.2.1.left _ (Nat.le_refl _) (by omega), HO.out.2.2.2.1.right _ (by omega) (by omega)⟩)
                go_wp2_with (go_at_call 23; refine (merge_call HC.out hS b cap n a (a + bs) n _ _ _ dk wr HZ.out (by omega) (by omega) (by omega) (by omega) (by omega) (by omega) (by omega) HO.out.2.2.2.2.1 HSm.out HM.out.1 HM.out.2).mono ?_; rintro z w1 ⟨rfl, d1, hP1, hs1, hR1, hG1⟩)
                go_roundw
                case rel =>
                  have e1 := HO.out.1
                  refine ⟨2 * bs, d1, by congr 1; omega, by omega, by omega, permIn_trans _ _ _ _ _ HO.out.2.1 (permIn_mono _ _ _ _ _ _ (by omega) (by omega) (by have := HZ.out; omega) hP1), ?_, hR1, HO.out.2.2.2.2.2.trans hG1⟩
                  rw [e1] at hP1 hs1 hlt2
                  exact HO.out.2.2.1.all hP1 hs1 (by omega)
                case measure => simp [intOf]; omega
              · have hlt3i : ¬ (a : Int) + (bs : Int) < (n : Int) := by omega
                go_wp2
                go_roundw
                case rel =>
                  have e1 := HO.out.1
                  refine ⟨2 * bs, dk, by congr 1; omega, by omega, by omega, HO.out.2.1, ?_, HO.out.2.2.2.2.1, HO.out.2.2.2.2.2⟩
                  rw [e1] at hlt2 hlt3
                  exact HO.out.2.2.1.all (permIn_refl _ _ _) (HO.out.2.2.2.1.left _ (by omega) (Nat.le_refl _)) (by omega)
                case measure => simp [intOf]; omega
        · have hlti : ¬ (bs : Int) < (n : Int) := by omega
          go_wp2
          go_end0
          refine ⟨rfl, dk, HO.out.1, ?_, HO.out.2.2.1, HO.out.2.2.2⟩
          have := HO.out.2.1 0 (by omega)
          rw [Nat.zero_mul] at this
          exact fun i j q1 q2 q3 => this i j q1 q2 (by omega)

/-- slices.SortStableFunc. -/
theorem sortStable {F : Nat} (hF : Cmps F lt) (hS : SWO lt) (b cap n : Nat) (d : Array Mt) (w : World) (hn : d.size = n) (hR : RowM b d w) (hsm : ∀ t, t < d.size → d[t]!.2 < 1024) (hsz : n ≤ 1024) :
    Calls Yba.prog 11 #[.slice (some ⟨b, 0, none⟩) n cap, .func (.func F) #[] #[]] w fun x w' => x = .returned (.tuple #[]) ∧ ∃ d', PermIn 0 n d d' ∧ SortedIn lt 0 n d' ∧ RowM b d' w' ∧ w.grownBy w' (some b) := by
  have HH : Hid (d.size = n ∧ RowM b d w ∧ ∀ t, t < d.size → d[t]!.2 < 1024) := ⟨hn, hR, hsm⟩
  clear hn hR hsm
  go_enter Yba.func11, Yba.ntmps11
  go_wp2_with (go_at_call 18; refine (stable hF hS b cap n d w HH.out.1 HH.out.2.1 HH.out.2.2 hsz).mono ?_; rintro z w1 ⟨rfl, d1, hP1, hs1, hR1, hG1⟩)
  go_end0
  exact ⟨rfl, d1, hP1, hs1, hR1, hG1⟩
end Go.Proofs.Ybulkchng
