/-
  slices.symMergeCmpFunc over a row of matches: one match on the left.
-/
import Derived.Test.YbulkchngRot
namespace Go.Proofs.Ybulkchng
open Go.RowKit Go.Sort
attribute [local go_sem] run_store_float

variable {lt : Mt → Mt → Bool}

theorem rA1 (a i t : Nat) (h1 : a ≤ t) (h2 : t < i - 1) : rotI a (a + 1) i t = t + 1 := by unfold rotI; repeat (split <;> try omega)
theorem rA2 (a i t : Nat) (h1 : a + 1 ≤ i) (h2 : t = i - 1) : rotI a (a + 1) i t = a := by unfold rotI; repeat (split <;> try omega)
theorem rA3 (a i t : Nat) (h1 : a + 1 ≤ i) (h2 : i ≤ t) : rotI a (a + 1) i t = t := by unfold rotI; repeat (split <;> try omega)

theorem mergeA (hS : SWO lt) (d d' : Array Mt) (a e i : Nat) (hi1 : a + 1 ≤ i) (hi2 : i ≤ e) (hs : SortedIn lt (a + 1) e d) (h1 : i = a + 1 ∨ lt d[i - 1]! d[a]! = true) (h2 : i = e ∨ lt d[i]! d[a]! = false)
    (hd : ∀ t, d'[t]! = d[rotI a (a + 1) i t]!) : SortedIn lt a e d' := by
  intro p q hp hpq hq
  rw [hd p, hd q]
  by_cases p1 : p < i - 1
  · rw [rA1 a i p hp p1]
    by_cases q1 : q < i - 1
    · rw [rA1 a i q (by omega) q1]; exact hs _ _ (by omega) (by omega) (by omega)
    · by_cases q2 : q = i - 1
      · rw [rA2 a i q hi1 q2]
        have hl : lt d[i - 1]! d[a]! = true := h1.resolve_left (by omega)
        have h3 := hS.asymmA hl
        by_cases e1 : p + 1 = i - 1
        · rw [e1]; exact h3
        · exact hS.ntrans _ _ _ h3 (hs _ _ (by omega) (by omega) (by omega))
      · rw [rA3 a i q hi1 (by omega)]; exact hs _ _ (by omega) (by omega) hq
  · by_cases p2 : p = i - 1
    · rw [rA2 a i p hi1 p2, rA3 a i q hi1 (by omega)]
      have hl : lt d[i]! d[a]! = false := h2.resolve_left (by omega)
      by_cases e1 : q = i
      · rw [e1]; exact hl
      · exact hS.ntrans _ _ _ (hs _ _ (by omega) (by omega) hq) hl
    · rw [rA3 a i p hi1 (by omega), rA3 a i q hi1 (by omega)]; exact hs _ _ (by omega) hpq hq

theorem rotA_step (a k t : Nat) (h : a ≤ k) : rotI a (a + 1) (k + 2) t = if t = k + 1 then rotI a (a + 1) (k + 1) k else if t = k then rotI a (a + 1) (k + 1) (k + 1) else rotI a (a + 1) (k + 1) t := by
  unfold rotI; repeat (split <;> try omega)
theorem rotA_start (a t : Nat) : rotI a (a + 1) (a + 1) t = t := by
  unfold rotI; repeat (split <;> try omega)

/-- What a merge is to do. -/
def Merges (F : Nat) (lt : Mt → Mt → Bool) (b cap a m e : Nat) (d : Array Mt) (w : World) : Prop :=
  Calls Yba.prog 23 #[.slice (some ⟨b, 0, none⟩) d.size cap, .int .i64 a, .int .i64 m, .int .i64 e, .func (.func F) #[] #[]] w fun x w' => x = .returned (.tuple #[]) ∧ ∃ d', PermIn a e d d' ∧ SortedIn lt a e d' ∧ RowM b d' w' ∧ w.grownBy w' (some b)

theorem smallM (d : Array Mt) {a e : Nat} (dj : Array Mt) (hsm : ∀ t, t < d.size → d[t]!.2 < 1024) (he : e ≤ d.size) (hP : PermIn a e d dj) (t : Nat) (ht : t < dj.size) : dj[t]!.2 < 1024 := by
  have hs : dj.size = d.size := hP.1
  by_cases h : a ≤ t ∧ t < e
  · exact permIn_all d dj a e (fun m => m.2 < 1024) he hP (fun t h1 h2 => hsm t (by omega)) t h.1 h.2
  · rw [hP.2.1 t (by omega)]; exact hsm t (by omega)

set_option maxHeartbeats 3200000 in
set_option maxRecDepth 100000 in
theorem symA {F : Nat} (hF : Cmps F lt) (hS : SWO lt) (b cap a m e : Nat) (d : Array Mt) (w : World) (hR : RowM b d w) (hsm : ∀ t, t < d.size → d[t]!.2 < 1024) (hm : m = a + 1) (hme : m < e) (he : e ≤ d.size) (hsz : d.size ≤ 2048)
    (hs : SortedIn lt m e d) : Merges F lt b cap a m e d w := by
  unfold Merges
  have HI : Hid (RowM b d w) := hR
  have HSM : Hid (∀ t, t < d.size → d[t]!.2 < 1024) := hsm
  have HS : Hid (SortedIn lt m e d) := hs
  have HC : Hid (Cmps F lt) := hF
  have hgo := hF.goes
  have hma : (m : Int) - (a : Int) = 1 := by omega
  have HM : Hid (m = a + 1) := hm
  have ham : a < m := by omega
  clear hR hsm hs hF hm
  go_enter Yba.func23, Yba.ntmps23
  go_wp2
  go_loopw [10, 11] (fun vi vj wr => ∃ (i j : Nat), vi = .int .i64 i ∧ vj = .int .i64 j ∧ m ≤ i ∧ i ≤ j ∧ j ≤ e ∧ (i = m ∨ lt d[i - 1]! d[a]! = true) ∧ (j = e ∨ lt d[j]! d[a]! = false) ∧ RowM b d wr ∧ w.grownBy wr (some b)) (fun vi vj _ => (intOf vj - intOf vi).toNat)
  case atStart => exact ⟨m, e, rfl, rfl, Nat.le_refl _, by omega, Nat.le_refl _, Or.inl rfl, Or.inl rfl, HI.out, grown_refl _ _⟩
  case round =>
    obtain ⟨i, j, rfl, rfl, him, hij, hje, h1, h2, hR, hG⟩ := hrel
    have HO : Hid ((i = m ∨ lt d[i - 1]! d[a]! = true) ∧ (j = e ∨ lt d[j]! d[a]! = false) ∧ RowM b d wr ∧ w.grownBy wr (some b)) := ⟨h1, h2, hR, hG⟩
    by_cases hlt : i < j
    · have hlti : (i : Int) < (j : Int) := by omega
      obtain ⟨h, hh⟩ : ∃ h : Nat, ((i : Int) + (j : Int)) / 2 = (h : Int) := ⟨(i + j) / 2, by omega⟩
      have hhi : i ≤ h := by omega
      have hhj : h < j := by omega
      have hbh : (h : Int) < (d.size : Int) := by omega
      have hba : (a : Int) < (d.size : Int) := by omega
      obtain ⟨x, hx⟩ : ∃ x, x = d[h]! := ⟨_, rfl⟩
      obtain ⟨y, hy⟩ : ∃ y, y = d[a]! := ⟨_, rfl⟩
      have c0 := hR.c0 h (by omega)
      have c1 := hR.c1 h (by omega)
      have c2 := hR.c0 a (by omega)
      have c3 := hR.c1 a (by omega)
      have hx2 : x.2 < 1024 := by rw [hx]; exact HSM.out h (by omega)
      have hy2 : y.2 < 1024 := by rw [hy]; exact HSM.out a (by omega)
      rw [← hx] at c0 c1
      rw [← hy] at c2 c3
      have HX : Hid (x = d[h]! ∧ y = d[a]!) := ⟨hx, hy⟩
      have HH : Hid (((i : Int) + (j : Int)) / 2 = (h : Int)) := hh
      clear h1 h2 hR hG hx hy
      go_wp2
      go_still_tail 9, (by kernel_rfl)
      clear c0 c1 c2 c3
      go_wp2_with (refine (HC.out.says x y _ hx2 hy2).mono ?_; rintro z w1 ⟨r, rfl, hr, hg1⟩)
      · have hl : lt x y = true := by assumption
        go_roundw
        case rel => exact ⟨h + 1, j, by go_num, rfl, by omega, by omega, hje, Or.inr (by rw [Nat.add_sub_cancel, ← HX.out.1, ← HX.out.2]; exact hl), HO.out.2.1, HO.out.2.2.1.grown ((grown_drew wr).trans hg1) (by simp), HO.out.2.2.2.trans (grown_any ((grown_drew wr).trans hg1))⟩
        case measure => simp [intOf]; omega
      · have hl : lt x y = false := by assumption
        go_roundw
        case rel => exact ⟨i, h, rfl, rfl, him, hhi, by omega, HO.out.1, Or.inr (by rw [← HX.out.1, ← HX.out.2]; exact hl), HO.out.2.2.1.grown ((grown_drew wr).trans hg1) (by simp), HO.out.2.2.2.trans (grown_any ((grown_drew wr).trans hg1))⟩
        case measure => simp [intOf]; omega
    · have hlti : ¬ (i : Int) < (j : Int) := by omega
      have HIJ : Hid (i = j) := show i = j by omega
      clear h1 h2 hR hG
      go_wp2
      go_loopw [13] (fun vk wq => ∃ (k : Nat) (dk : Array Mt), vk = .int .i64 k ∧ a ≤ k ∧ k + 1 ≤ i ∧ PermIn a e d dk ∧ (∀ t, dk[t]! = d[rotI a (a + 1) (k + 1) t]!) ∧ RowM b dk wq ∧ w.grownBy wq (some b)) (fun vk _ => i - (intOf vk).toNat)
      case atStart => exact ⟨a, d, rfl, Nat.le_refl _, by omega, permIn_refl _ _ _, fun t => by rw [rotA_start], HO.out.2.2.1, HO.out.2.2.2⟩
      case round =>
        obtain ⟨k, dk, rfl, hak, hki, hP, hat, hR, hG⟩ := hrel
        have HJ : Hid (PermIn a e d dk ∧ (∀ t, dk[t]! = d[rotI a (a + 1) (k + 1) t]!) ∧ RowM b dk wr ∧ w.grownBy wr (some b)) := ⟨hP, hat, hR, hG⟩
        have hsj : dk.size = d.size := hP.1
        by_cases hlt2 : k + 1 < i
        · have hlt2i : (k : Int) < (i : Int) - 1 := by omega
          obtain ⟨x, hx⟩ : ∃ x, x = dk[k]! := ⟨_, rfl⟩
          obtain ⟨y, hy⟩ : ∃ y, y = dk[k + 1]! := ⟨_, rfl⟩
          have c0 := hR.c0 k (by omega)
          have c1 := hR.c1 k (by omega)
          have c2 := hR.c0 (k + 1) (by omega)
          have c3 := hR.c1 (k + 1) (by omega)
          rw [← hx] at c0 c1
          rw [← hy] at c2 c3
          have z0 := hR.fz (k * 2)
          have z1 := hR.fz (k * 2 + 1)
          have z2 := hR.fz ((k + 1) * 2)
          have z3 := hR.fz ((k + 1) * 2 + 1)
          have hb1 : (k : Int) < (d.size : Int) := by omega
          have hb2 : (k : Int) + 1 < (d.size : Int) := by omega
          have hb4 : (0 : Int) ≤ (k : Int) + 1 := by omega
          have hw2 : IntKind.i64.wrap ((k : Int) + 1) = (k : Int) + 1 := IntWalk.i64_in _ (by omega)
          have n2 : ¬ (k + 1) * 2 = k * 2 := by omega
          have n3 : ¬ (k + 1) * 2 = k * 2 + 1 := by omega
          have n4 : ¬ (k + 1) * 2 + 1 = k * 2 := by omega
          have n5 : ¬ (k + 1) * 2 + 1 = k * 2 + 1 := by omega
          have HX : Hid (x = dk[k]! ∧ y = dk[k + 1]!) := ⟨hx, hy⟩
          clear hP hat hR hG hx hy
          go_wp2
          go_region
          have HR2 : Hid (RowM b (swp dk k (k + 1)) (putM (putM wr b k y) b (k + 1) x).drew) := (by
            have h := HJ.out.2.2.1.swap k (k + 1) (by omega) (by omega)
            rw [← HX.out.1, ← HX.out.2] at h
            exact h.grown (grown_drew _) (by simp))
          have HG2 : Hid (w.grownBy (putM (putM wr b k y) b (k + 1) x).drew (some b)) := ((HJ.out.2.2.2.trans (grown_putM _ _ _ _)).trans (grown_putM _ _ _ _)).trans (grown_any (grown_drew _))
          clear c0 c1 c2 c3 z0 z1 z2 z3
          go_wp2
          go_roundw
          case rel =>
            refine ⟨k + 1, swp dk k (k + 1), by go_num, by omega, by omega, permIn_trans _ _ _ _ _ HJ.out.1 (swp_permIn dk a e k (k + 1) (by omega) (by omega) (by omega) (by omega) (by omega)), fun t => ?_, HR2.out, HG2.out⟩
            rw [swp_get dk (by omega) (by omega), rotA_step a k t hak]
            by_cases e1 : t = k + 1
            · rw [if_pos e1, if_pos e1, HJ.out.2.1]
            · rw [if_neg e1, if_neg e1]
              by_cases e2 : t = k
              · rw [if_pos e2, if_pos e2, HJ.out.2.1]
              · rw [if_neg e2, if_neg e2, HJ.out.2.1]
          case measure => simp [intOf]; omega
        · have hlt2i : ¬ (k : Int) < (i : Int) - 1 := by omega
          clear hP hat hR hG
          go_wp2
          refine bodyPost_ret (v := .tuple #[]) (by simp [results, Yba.results23, go_sem]) rfl ?_
          refine ⟨rfl, dk, HJ.out.1, mergeA hS d dk a e i (by have := HM.out; omega) (by omega) (by have := HS.out; rwa [HM.out] at this) (by rw [← HM.out]; exact HO.out.1) (by rw [HIJ.out]; exact HO.out.2.1) (fun t => by rw [HJ.out.2.1, show k + 1 = i by omega]), HJ.out.2.2.1, HJ.out.2.2.2⟩
end Go.Proofs.Ybulkchng
