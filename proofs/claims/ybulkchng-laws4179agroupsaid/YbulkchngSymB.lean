/-
  slices.symMergeCmpFunc over a row of matches: one match on the right.
-/
import Derived.Test.YbulkchngSymA
namespace Go.Proofs.Ybulkchng
open Go.RowKit Go.Sort
attribute [local go_sem] run_store_float

variable {lt : Mt → Mt → Bool}

theorem rB1 (i m t : Nat) (h : t < i) : rotI i m (m + 1) t = t := by unfold rotI; repeat (split <;> try omega)
theorem rB2 (i m t : Nat) (h : i ≤ m) (h2 : t = i) : rotI i m (m + 1) t = m := by unfold rotI; repeat (split <;> try omega)
theorem rB3 (i m t : Nat) (h : i < t) (h2 : t ≤ m) : rotI i m (m + 1) t = t - 1 := by unfold rotI; repeat (split <;> try omega)

theorem mergeB (hS : SWO lt) (d d' : Array Mt) (a m i : Nat) (hi1 : a ≤ i) (hi2 : i ≤ m) (hs : SortedIn lt a m d) (h1 : i = a ∨ lt d[m]! d[i - 1]! = false) (h2 : i = m ∨ lt d[m]! d[i]! = true)
    (hd : ∀ t, d'[t]! = d[rotI i m (m + 1) t]!) : SortedIn lt a (m + 1) d' := by
  intro p q hp hpq hq
  rw [hd p, hd q]
  by_cases p1 : p < i
  · rw [rB1 i m p p1]
    by_cases q1 : q < i
    · rw [rB1 i m q q1]; exact hs _ _ hp hpq (by omega)
    · by_cases q2 : q = i
      · rw [rB2 i m q hi2 q2]
        have hl : lt d[m]! d[i - 1]! = false := h1.resolve_left (by omega)
        by_cases e1 : p = i - 1
        · rw [e1]; exact hl
        · exact hS.ntrans _ _ _ hl (hs _ _ hp (by omega) (by omega))
      · rw [rB3 i m q (by omega) (by omega)]; exact hs _ _ hp (by omega) (by omega)
  · by_cases p2 : p = i
    · rw [rB2 i m p hi2 p2, rB3 i m q (by omega) (by omega)]
      have hl : lt d[m]! d[i]! = true := h2.resolve_left (by omega)
      have h3 := hS.asymmA hl
      by_cases e1 : q - 1 = i
      · rw [e1]; exact h3
      · exact hS.ntrans _ _ _ (hs _ _ hi1 (by omega) (by omega)) h3
    · rw [rB3 i m p (by omega) (by omega), rB3 i m q (by omega) (by omega)]; exact hs _ _ (by omega) (by omega) (by omega)

theorem rotB_step (m k t : Nat) (h : k + 1 ≤ m) : rotI k m (m + 1) t = if t = k then rotI (k + 1) m (m + 1) (k + 1) else if t = k + 1 then rotI (k + 1) m (m + 1) k else rotI (k + 1) m (m + 1) t := by
  unfold rotI; repeat (split <;> try omega)
theorem rotB_start (m t : Nat) : rotI m m (m + 1) t = t := by
  unfold rotI; repeat (split <;> try omega)

set_option maxHeartbeats 3200000 in
set_option maxRecDepth 100000 in
theorem symB {F : Nat} (hF : Cmps F lt) (hS : SWO lt) (b cap a m e : Nat) (d : Array Mt) (w : World) (hR : RowM b d w) (hsm : ∀ t, t < d.size → d[t]!.2 < 1024) (hm : a + 1 < m) (hme : e = m + 1) (he : e ≤ d.size) (hsz : d.size ≤ 2048)
    (hs : SortedIn lt a m d) : Merges F lt b cap a m e d w := by
  unfold Merges
  have HI : Hid (RowM b d w) := hR
  have HSM : Hid (∀ t, t < d.size → d[t]!.2 < 1024) := hsm
  have HS : Hid (SortedIn lt a m d) := hs
  have HC : Hid (Cmps F lt) := hF
  have hgo := hF.goes
  have hma : ((m : Int) - (a : Int) == 1) = false := by simp; omega
  have hem : (e : Int) - (m : Int) = 1 := by omega
  have HM : Hid (e = m + 1) := hme
  have hme' : m < e := by omega
  have hms : m < d.size := by omega
  clear hR hsm hs hF hme
  go_enter Yba.func23, Yba.ntmps23
  go_wp2
  go_loopw [14, 15] (fun vi vj wr => ∃ (i j : Nat), vi = .int .i64 i ∧ vj = .int .i64 j ∧ a ≤ i ∧ i ≤ j ∧ j ≤ m ∧ (i = a ∨ lt d[m]! d[i - 1]! = false) ∧ (j = m ∨ lt d[m]! d[j]! = true) ∧ RowM b d wr ∧ w.grownBy wr (some b)) (fun vi vj _ => (intOf vj - intOf vi).toNat)
  case atStart => exact ⟨a, m, rfl, rfl, Nat.le_refl _, by omega, Nat.le_refl _, Or.inl rfl, Or.inl rfl, HI.out, grown_refl _ _⟩
  case round =>
    obtain ⟨i, j, rfl, rfl, him, hij, hje, h1, h2, hR, hG⟩ := hrel
    have HO : Hid ((i = a ∨ lt d[m]! d[i - 1]! = false) ∧ (j = m ∨ lt d[m]! d[j]! = true) ∧ RowM b d wr ∧ w.grownBy wr (some b)) := ⟨h1, h2, hR, hG⟩
    by_cases hlt : i < j
    · have hlti : (i : Int) < (j : Int) := by omega
      obtain ⟨h, hh⟩ : ∃ h : Nat, ((i : Int) + (j : Int)) / 2 = (h : Int) := ⟨(i + j) / 2, by omega⟩
      have hhi : i ≤ h := by omega
      have hhj : h < j := by omega
      have hbh : (h : Int) < (d.size : Int) := by omega
      have hba : (m : Int) < (d.size : Int) := by omega
      obtain ⟨x, hx⟩ : ∃ x, x = d[m]! := ⟨_, rfl⟩
      obtain ⟨y, hy⟩ : ∃ y, y = d[h]! := ⟨_, rfl⟩
      have c0 := hR.c0 m (by omega)
      have c1 := hR.c1 m (by omega)
      have c2 := hR.c0 h (by omega)
      have c3 := hR.c1 h (by omega)
      have hx2 : x.2 < 1024 := by rw [hx]; exact HSM.out m (by omega)
      have hy2 : y.2 < 1024 := by rw [hy]; exact HSM.out h (by omega)
      rw [← hx] at c0 c1
      rw [← hy] at c2 c3
      have HX : Hid (x = d[m]! ∧ y = d[h]!) := ⟨hx, hy⟩
      clear h1 h2 hR hG hx hy
      go_wp2
      go_still_tail 9, (by kernel_rfl)
      clear c0 c1 c2 c3
      cases hl : lt x y with
      | true =>
        have HL : Hid (lt x y = true) := hl
        go_wp2_with (refine (HC.out.says x y _ hx2 hy2).mono ?_; rintro z w1 ⟨r, rfl, hr, hg1⟩; rw [hl] at hr)
        go_roundw
        case rel => exact ⟨i, h, rfl, rfl, him, hhi, by omega, HO.out.1, Or.inr (by rw [← HX.out.1, ← HX.out.2]; exact HL.out), HO.out.2.2.1.grown ((grown_drew wr).trans hg1) (by simp), HO.out.2.2.2.trans (grown_any ((grown_drew wr).trans hg1))⟩
        case measure => simp [intOf]; omega
      | false =>
        have HL : Hid (lt x y = false) := hl
        go_wp2_with (refine (HC.out.says x y _ hx2 hy2).mono ?_; rintro z w1 ⟨r, rfl, hr, hg1⟩; rw [hl] at hr)
        go_roundw
        case rel => exact ⟨h + 1, j, by go_num, rfl, by omega, by omega, hje, Or.inr (by rw [Nat.add_sub_cancel, ← HX.out.1, ← HX.out.2]; exact HL.out), HO.out.2.1, HO.out.2.2.1.grown ((grown_drew wr).trans hg1) (by simp), HO.out.2.2.2.trans (grown_any ((grown_drew wr).trans hg1))⟩
        case measure => simp [intOf]; omega
    · have hlti : ¬ (i : Int) < (j : Int) := by omega
      have HIJ : Hid (i = j) := show i = j by omega
      clear h1 h2 hR hG
      go_wp2
      go_loopw [17] (fun vk wq => ∃ (k : Nat) (dk : Array Mt), vk = .int .i64 k ∧ i ≤ k ∧ k ≤ m ∧ PermIn a e d dk ∧ (∀ t, dk[t]! = d[rotI k m (m + 1) t]!) ∧ RowM b dk wq ∧ w.grownBy wq (some b)) (fun vk _ => (intOf vk).toNat)
      case atStart => exact ⟨m, d, rfl, by omega, Nat.le_refl _, permIn_refl _ _ _, fun t => by rw [rotB_start], HO.out.2.2.1, HO.out.2.2.2⟩
      case round =>
        obtain ⟨j2, dk, rfl, hak, hki, hP, hat, hR, hG⟩ := hrel
        have hsj : dk.size = d.size := hP.1
        by_cases hlt2 : i < j2
        · obtain ⟨k, rfl⟩ : ∃ k, j2 = k + 1 := ⟨j2 - 1, by omega⟩
          have HJ : Hid (PermIn a e d dk ∧ (∀ t, dk[t]! = d[rotI (k + 1) m (m + 1) t]!) ∧ RowM b dk wr ∧ w.grownBy wr (some b)) := ⟨hP, hat, hR, hG⟩
          have hlt2i : (i : Int) < (k : Int) + 1 := by omega
          obtain ⟨x, hx⟩ : ∃ x, x = dk[k + 1]! := ⟨_, rfl⟩
          obtain ⟨y, hy⟩ : ∃ y, y = dk[k]! := ⟨_, rfl⟩
          have c0 := hR.c0 (k + 1) (by omega)
          have c1 := hR.c1 (k + 1) (by omega)
          have c2 := hR.c0 k (by omega)
          have c3 := hR.c1 k (by omega)
          rw [← hx] at c0 c1
          rw [← hy] at c2 c3
          have z0 := hR.fz ((k + 1) * 2)
          have z1 := hR.fz ((k + 1) * 2 + 1)
          have z2 := hR.fz (k * 2)
          have z3 := hR.fz (k * 2 + 1)
          have hb1 : (k : Int) + 1 < (d.size : Int) := by omega
          have hb2 : (k : Int) < (d.size : Int) := by omega
          have hb3 : (0 : Int) ≤ (k : Int) + 1 := by omega
          have hwk : IntKind.i64.wrap (k : Int) = (k : Int) := IntWalk.i64_in _ (by omega)
          have n2 : ¬ k * 2 = (k + 1) * 2 := by omega
          have n3 : ¬ k * 2 = (k + 1) * 2 + 1 := by omega
          have n4 : ¬ k * 2 + 1 = (k + 1) * 2 := by omega
          have n5 : ¬ k * 2 + 1 = (k + 1) * 2 + 1 := by omega
          have HX : Hid (x = dk[k + 1]! ∧ y = dk[k]!) := ⟨hx, hy⟩
          clear hP hat hR hG hx hy
          go_wp2
          go_region
          have HR2 : Hid (RowM b (swp dk (k + 1) k) (putM (putM wr b (k + 1) y) b k x).drew) := (by
            have h := HJ.out.2.2.1.swap (k + 1) k (by omega) (by omega)
            rw [← HX.out.1, ← HX.out.2] at h
            exact h.grown (grown_drew _) (by simp))
          have HG2 : Hid (w.grownBy (putM (putM wr b (k + 1) y) b k x).drew (some b)) := ((HJ.out.2.2.2.trans (grown_putM _ _ _ _)).trans (grown_putM _ _ _ _)).trans (grown_any (grown_drew _))
          clear c0 c1 c2 c3 z0 z1 z2 z3
          go_wp2
          go_roundw
          case rel =>
            refine ⟨k, swp dk (k + 1) k, rfl, by omega, by omega, permIn_trans _ _ _ _ _ HJ.out.1 (swp_permIn dk a e (k + 1) k (by omega) (by omega) (by omega) (by omega) (by omega)), fun t => ?_, HR2.out, HG2.out⟩
            rw [swp_get dk (by omega) (by omega), rotB_step m k t (by omega)]
            by_cases e1 : t = k
            · rw [if_pos e1, if_pos e1, HJ.out.2.1]
            · rw [if_neg e1, if_neg e1]
              by_cases e2 : t = k + 1
              · rw [if_pos e2, if_pos e2, HJ.out.2.1]
              · rw [if_neg e2, if_neg e2, HJ.out.2.1]
          case measure => simp [intOf]
        · have hlt2i : ¬ (i : Int) < (j2 : Int) := by omega
          have HJ : Hid (PermIn a e d dk ∧ (∀ t, dk[t]! = d[rotI j2 m (m + 1) t]!) ∧ RowM b dk wr ∧ w.grownBy wr (some b)) := ⟨hP, hat, hR, hG⟩
          clear hP hat hR hG
          go_wp2
          refine bodyPost_ret (v := .tuple #[]) (by simp [results, Yba.results23, go_sem]) rfl ?_
          refine ⟨rfl, dk, HJ.out.1, ?_, HJ.out.2.2.1, HJ.out.2.2.2⟩
          rw [HM.out]
          exact mergeB hS d dk a m i him (by omega) HS.out HO.out.1 (by rw [HIJ.out]; exact HO.out.2.1) (fun t => by rw [HJ.out.2.1, show j2 = i by omega])
end Go.Proofs.Ybulkchng
