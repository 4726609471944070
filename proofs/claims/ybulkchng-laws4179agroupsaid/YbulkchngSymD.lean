/-
  slices.symMergeCmpFunc over a row of matches: the recursive case, its longer half on the left.
-/
import Derived.Test.YbulkchngSymC
namespace Go.Proofs.Ybulkchng
open Go.RowKit Go.Sort
attribute [local go_sem] run_store_float

variable {lt : Mt → Mt → Bool}

set_option maxHeartbeats 12800000 in
set_option maxRecDepth 100000 in
theorem symC2 {F : Nat} (hF : Cmps F lt) (hS : SWO lt) (b cap a m e mid : Nat) (d : Array Mt) (w : World) (hR : RowM b d w) (hsm : ∀ t, t < d.size → d[t]!.2 < 1024) (hm : a + 1 < m) (hme : m + 1 < e) (he : e ≤ d.size) (hsz : d.size ≤ 2048)
    (hs1 : SortedIn lt a m d) (hs2 : SortedIn lt m e d) (hmid : ((a : Int) + (e : Int)) / 2 = (mid : Int)) (hcase : mid < m) (ih : MergesBelow F lt b cap (e - a) d.size) : Merges F lt b cap a m e d w := by
  unfold Merges
  have HI : Hid (RowM b d w) := hR
  have HSM : Hid (∀ t, t < d.size → d[t]!.2 < 1024) := hsm
  have HS : Hid (SortedIn lt a m d ∧ SortedIn lt m e d) := ⟨hs1, hs2⟩
  have HCM : Hid (Cmps F lt) := hF
  have IH : Hid (MergesBelow F lt b cap (e - a) d.size) := ih
  have hgo := hF.goes
  have hma : ((m : Int) - (a : Int) == 1) = false := by simp; omega
  have hem : ((e : Int) - (m : Int) == 1) = false := by simp; omega
  have hmidb : 2 * mid ≤ a + e ∧ a + e ≤ 2 * mid + 1 := by omega
  have hmb1 := hmidb.1
  have hmb2 := hmidb.2
  have hmm : (mid : Int) < (m : Int) := by omega
  obtain ⟨s0, hs0⟩ : ∃ s0 : Nat, (mid : Int) + (m : Int) - (e : Int) = (s0 : Int) := ⟨mid + m - e, by omega⟩
  have HS0 : Hid ((mid : Int) + (m : Int) - (e : Int) = (s0 : Int)) := hs0
  have hs0a : a ≤ s0 := by omega
  have hs0e : s0 + e = mid + m := by omega
  clear hR hsm hs1 hs2 hF ih hmidb
  go_enter Yba.func23, Yba.ntmps23
  go_wp2
  go_loopw [20, 21] (fun vi vj wr => ∃ (s r : Nat), vi = .int .i64 s ∧ vj = .int .i64 r ∧ s0 ≤ s ∧ s ≤ r ∧ r ≤ mid ∧ (s = s0 ∨ lt d[mid + m - s]! d[s - 1]! = false) ∧ (r = mid ∨ lt d[mid + m - r - 1]! d[r]! = true) ∧ RowM b d wr ∧ w.grownBy wr (some b)) (fun vi vj _ => (intOf vj - intOf vi).toNat)
  case atStart => exact ⟨s0, mid, rfl, rfl, Nat.le_refl _, by omega, Nat.le_refl _, Or.inl rfl, Or.inl rfl, HI.out, grown_refl _ _⟩
  case round =>
    obtain ⟨s, r, rfl, rfl, his, hsr, hre, h1, h2, hR, hG⟩ := hrel
    have HO : Hid ((s = s0 ∨ lt d[mid + m - s]! d[s - 1]! = false) ∧ (r = mid ∨ lt d[mid + m - r - 1]! d[r]! = true) ∧ RowM b d wr ∧ w.grownBy wr (some b)) := ⟨h1, h2, hR, hG⟩
    by_cases hlt : s < r
    · have hlti : (s : Int) < (r : Int) := by omega
      obtain ⟨c, hc⟩ : ∃ c : Nat, ((s : Int) + (r : Int)) / 2 = (c : Int) := ⟨(s + r) / 2, by omega⟩
      have hcs : s ≤ c := by omega
      have hcr : c < r := by omega
      obtain ⟨q, hq⟩ : ∃ q : Nat, (mid : Int) + (m : Int) - 1 - (c : Int) = (q : Int) := ⟨mid + m - 1 - c, by omega⟩
      have hq1 : q + c + 1 = mid + m := by omega
      have hbc : (c : Int) < (d.size : Int) := by omega
      have hbq : (q : Int) < (d.size : Int) := by omega
      have hwq : IntKind.i64.wrap (q : Int) = (q : Int) := IntWalk.i64_in _ (by omega)
      obtain ⟨x, hx⟩ : ∃ x, x = d[q]! := ⟨_, rfl⟩
      obtain ⟨y, hy⟩ : ∃ y, y = d[c]! := ⟨_, rfl⟩
      have c0 := hR.c0 q (by omega)
      have c1 := hR.c1 q (by omega)
      have c2 := hR.c0 c (by omega)
      have c3 := hR.c1 c (by omega)
      have hx2 : x.2 < 1024 := by rw [hx]; exact HSM.out q (by omega)
      have hy2 : y.2 < 1024 := by rw [hy]; exact HSM.out c (by omega)
      rw [← hx] at c0 c1
      rw [← hy] at c2 c3
      have HX : Hid (x = d[q]! ∧ y = d[c]!) := ⟨hx, hy⟩
      clear h1 h2 hR hG hx hy
      cases hl : lt x y with
      | true =>
        have HL : Hid (lt x y = true) := hl
        go_wp2
        go_still_tail 11, (by kernel_rfl)
        clear c0 c1 c2 c3
        go_wp2_with (refine (HCM.out.says x y _ hx2 hy2).mono ?_; rintro z w1 ⟨r', rfl, hr, hg1⟩; rw [hl] at hr)
        go_roundw
        case rel => exact ⟨s, c, rfl, rfl, his, hcs, by omega, HO.out.1, Or.inr (by rw [show mid + m - c - 1 = q by omega, ← HX.out.1, ← HX.out.2]; exact HL.out), HO.out.2.2.1.grown ((grown_drew wr).trans hg1) (by simp), HO.out.2.2.2.trans (grown_any ((grown_drew wr).trans hg1))⟩
        case measure => simp [intOf]; omega
      | false =>
        have HL : Hid (lt x y = false) := hl
        go_wp2
        go_still_tail 11, (by kernel_rfl)
        clear c0 c1 c2 c3
        go_wp2_with (refine (HCM.out.says x y _ hx2 hy2).mono ?_; rintro z w1 ⟨r', rfl, hr, hg1⟩; rw [hl] at hr)
        go_roundw
        case rel => exact ⟨c + 1, r, by go_num, rfl, by omega, by omega, hre, Or.inr (by rw [show mid + m - (c + 1) = q by omega, Nat.add_sub_cancel, ← HX.out.1, ← HX.out.2]; exact HL.out), HO.out.2.1, HO.out.2.2.1.grown ((grown_drew wr).trans hg1) (by simp), HO.out.2.2.2.trans (grown_any ((grown_drew wr).trans hg1))⟩
        case measure => simp [intOf]; omega
    · have hlti : ¬ (s : Int) < (r : Int) := by omega
      have hrs : r = s := by omega
      obtain ⟨f, hf⟩ : ∃ f : Nat, (mid : Int) + (m : Int) - (s : Int) = (f : Int) := ⟨mid + m - s, by omega⟩
      have hsf : s + f = mid + m := by omega
      have HC : Hid (Cut lt d a m e mid s f) := ⟨by omega, by omega, by omega, by omega, hsf, HS.out.1, HS.out.2,
        by rcases h1 with g | g
           · first | exact Or.inl g | exact Or.inr (Or.inl (by omega))
           · exact Or.inr (Or.inr (by rwa [show mid + m - s = f by omega] at g)),
        by rcases h2 with g | g
           · first | exact Or.inl (by omega) | exact Or.inr (Or.inl (by omega))
           · exact Or.inr (Or.inr (by rwa [hrs, show mid + m - s - 1 = f - 1 by omega] at g))⟩
      have HR : Hid (RowM b d wr) := hR
      have HG : Hid (w.grownBy wr (some b)) := hG
      have hRS : Hid (r = s) := hrs
      have hb1 := HC.out.sa
      have hb2 := HC.out.sm
      have hb3 := HC.out.mf
      have hb4 := HC.out.fe
      clear h1 h2 hR hG hrs
      by_cases t1 : s < m ∧ m < f
      · have u1 : (s : Int) < (m : Int) := by omega
        have u2 : (m : Int) < (f : Int) := by omega
        by_cases t2 : a < s
        · have u3 : (a : Int) < (s : Int) := by omega
          have u4 : (s : Int) < (mid : Int) := by omega
          have u5 : (mid : Int) < (f : Int) := by omega
          by_cases t3 : f < e
          · have u6 : (f : Int) < (e : Int) := by omega
            go_wp2_with (first | (go_at_call 34; refine (rotate' b cap d.size s m f _ _ _ d wr rfl (by omega) (by omega) (by omega) HR.out (by omega) (by omega) (by omega) hsz).mono ?_; rintro z w1 ⟨rfl, d1, hP1, h1, hR1, hG1⟩; have HK1 : Hid (PermIn s f d d1 ∧ (∀ t, d1[t]! = d[rotI s m f t]!) ∧ RowM b d1 w1 ∧ wr.grownBy w1 (some b)) := ⟨hP1, h1, hR1, hG1⟩; clear hP1 h1 hR1 hG1) | (go_at_call_of 23 (Value.int .i64 (mid : Int)); refine ((IH.out a s mid d1 w1 (by omega) (by omega) (by omega) (by omega) HK1.out.1.1 HK1.out.2.2.1 (smallM d d1 HSM.out (by omega) HK1.out.1) (HC.out.p1 HK1.out.2.1) (HC.out.p2 HK1.out.2.1)).at_ HK1.out.1.1 _ _ _ (by omega) (by omega) (by omega)).mono ?_; rintro z w2 ⟨rfl, d2, hP2, h2, hR2, hG2⟩; have HK2 : Hid (PermIn a mid d1 d2 ∧ SortedIn lt a mid d2 ∧ RowM b d2 w2 ∧ w1.grownBy w2 (some b)) := ⟨hP2, h2, hR2, hG2⟩; clear hP2 h2 hR2 hG2) | (go_at_call 23; refine ((IH.out mid f e d2 w2 (by omega) (by omega) (by omega) (by have := (HK2.out.1.1.trans HK1.out.1.1); omega) (HK2.out.1.1.trans HK1.out.1.1) HK2.out.2.2.1 (smallM d1 d2 (smallM d d1 HSM.out (by omega) HK1.out.1) (by have := HK1.out.1.1; omega) HK2.out.1) (sorted_out (HC.out.p3 HK1.out.2.1) HK2.out.1 (Nat.le_refl _)) (sorted_out (HC.out.p4 HK1.out.2.1) HK2.out.1 (by omega))).at_ (HK2.out.1.1.trans HK1.out.1.1) _ _ _ (by omega) (by omega) (by omega)).mono ?_; rintro z w3 ⟨rfl, d3, hP3, h3, hR3, hG3⟩; have HK3 : Hid (PermIn mid e d2 d3 ∧ SortedIn lt mid e d3 ∧ RowM b d3 w3 ∧ w2.grownBy w3 (some b)) := ⟨hP3, h3, hR3, hG3⟩; clear hP3 h3 hR3 hG3))
            go_end0
            have hfin := finish hS HC.out HK1.out.2.1 (by omega) (by omega) (by omega) (permIn_mono _ _ _ _ _ _ (by omega) (by omega) (by omega) HK1.out.1) HK2.out.1 HK2.out.2.1 HK3.out.1 HK3.out.2.1
            exact ⟨rfl, d3, hfin.1, hfin.2, HK3.out.2.2.1, ((HG.out.trans HK1.out.2.2.2).trans HK2.out.2.2.2).trans HK3.out.2.2.2⟩
          · have u6 : ¬ (f : Int) < (e : Int) := by omega
            go_wp2_with (first | (go_at_call 34; refine (rotate' b cap d.size s m f _ _ _ d wr rfl (by omega) (by omega) (by omega) HR.out (by omega) (by omega) (by omega) hsz).mono ?_; rintro z w1 ⟨rfl, d1, hP1, h1, hR1, hG1⟩; have HK1 : Hid (PermIn s f d d1 ∧ (∀ t, d1[t]! = d[rotI s m f t]!) ∧ RowM b d1 w1 ∧ wr.grownBy w1 (some b)) := ⟨hP1, h1, hR1, hG1⟩; clear hP1 h1 hR1 hG1) | (go_at_call_of 23 (Value.int .i64 (mid : Int)); refine ((IH.out a s mid d1 w1 (by omega) (by omega) (by omega) (by omega) HK1.out.1.1 HK1.out.2.2.1 (smallM d d1 HSM.out (by omega) HK1.out.1) (HC.out.p1 HK1.out.2.1) (HC.out.p2 HK1.out.2.1)).at_ HK1.out.1.1 _ _ _ (by omega) (by omega) (by omega)).mono ?_; rintro z w2 ⟨rfl, d2, hP2, h2, hR2, hG2⟩; have HK2 : Hid (PermIn a mid d1 d2 ∧ SortedIn lt a mid d2 ∧ RowM b d2 w2 ∧ w1.grownBy w2 (some b)) := ⟨hP2, h2, hR2, hG2⟩; clear hP2 h2 hR2 hG2))
            have HK3 : Hid (PermIn mid e d2 d2 ∧ SortedIn lt mid e d2 ∧ RowM b d2 w2 ∧ w2.grownBy w2 (some b)) := ⟨permIn_refl _ _ _, sorted_out (HC.out.upper HK1.out.2.1 (by omega)) HK2.out.1 (Nat.le_refl _), HK2.out.2.2.1, grown_refl _ _⟩
            go_end0
            have hfin := finish hS HC.out HK1.out.2.1 (by omega) (by omega) (by omega) (permIn_mono _ _ _ _ _ _ (by omega) (by omega) (by omega) HK1.out.1) HK2.out.1 HK2.out.2.1 HK3.out.1 HK3.out.2.1
            exact ⟨rfl, d2, hfin.1, hfin.2, HK3.out.2.2.1, ((HG.out.trans HK1.out.2.2.2).trans HK2.out.2.2.2).trans HK3.out.2.2.2⟩
        · have u3 : ¬ (a : Int) < (s : Int) := by omega
          have u5 : (mid : Int) < (f : Int) := by omega
          by_cases t3 : f < e
          · have u6 : (f : Int) < (e : Int) := by omega
            go_wp2_with (first | (go_at_call 34; refine (rotate' b cap d.size s m f _ _ _ d wr rfl (by omega) (by omega) (by omega) HR.out (by omega) (by omega) (by omega) hsz).mono ?_; rintro z w1 ⟨rfl, d1, hP1, h1, hR1, hG1⟩; have HK1 : Hid (PermIn s f d d1 ∧ (∀ t, d1[t]! = d[rotI s m f t]!) ∧ RowM b d1 w1 ∧ wr.grownBy w1 (some b)) := ⟨hP1, h1, hR1, hG1⟩; clear hP1 h1 hR1 hG1; have HK2 : Hid (PermIn a mid d1 d1 ∧ SortedIn lt a mid d1 ∧ RowM b d1 w1 ∧ w1.grownBy w1 (some b)) := ⟨permIn_refl _ _ _, HC.out.lower HK1.out.2.1 (by omega), HK1.out.2.2.1, grown_refl _ _⟩) | (go_at_call 23; refine ((IH.out mid f e d1 w1 (by omega) (by omega) (by omega) (by have := (HK2.out.1.1.trans HK1.out.1.1); omega) (HK2.out.1.1.trans HK1.out.1.1) HK2.out.2.2.1 (smallM d1 d1 (smallM d d1 HSM.out (by omega) HK1.out.1) (by have := HK1.out.1.1; omega) HK2.out.1) (sorted_out (HC.out.p3 HK1.out.2.1) HK2.out.1 (Nat.le_refl _)) (sorted_out (HC.out.p4 HK1.out.2.1) HK2.out.1 (by omega))).at_ (HK2.out.1.1.trans HK1.out.1.1) _ _ _ (by omega) (by omega) (by omega)).mono ?_; rintro z w3 ⟨rfl, d3, hP3, h3, hR3, hG3⟩; have HK3 : Hid (PermIn mid e d1 d3 ∧ SortedIn lt mid e d3 ∧ RowM b d3 w3 ∧ w1.grownBy w3 (some b)) := ⟨hP3, h3, hR3, hG3⟩; clear hP3 h3 hR3 hG3))
            go_end0
            have hfin := finish hS HC.out HK1.out.2.1 (by omega) (by omega) (by omega) (permIn_mono _ _ _ _ _ _ (by omega) (by omega) (by omega) HK1.out.1) HK2.out.1 HK2.out.2.1 HK3.out.1 HK3.out.2.1
            exact ⟨rfl, d3, hfin.1, hfin.2, HK3.out.2.2.1, ((HG.out.trans HK1.out.2.2.2).trans HK2.out.2.2.2).trans HK3.out.2.2.2⟩
          · have u6 : ¬ (f : Int) < (e : Int) := by omega
            go_wp2_with (first | (go_at_call 34; refine (rotate' b cap d.size s m f _ _ _ d wr rfl (by omega) (by omega) (by omega) HR.out (by omega) (by omega) (by omega) hsz).mono ?_; rintro z w1 ⟨rfl, d1, hP1, h1, hR1, hG1⟩; have HK1 : Hid (PermIn s f d d1 ∧ (∀ t, d1[t]! = d[rotI s m f t]!) ∧ RowM b d1 w1 ∧ wr.grownBy w1 (some b)) := ⟨hP1, h1, hR1, hG1⟩; clear hP1 h1 hR1 hG1; have HK2 : Hid (PermIn a mid d1 d1 ∧ SortedIn lt a mid d1 ∧ RowM b d1 w1 ∧ w1.grownBy w1 (some b)) := ⟨permIn_refl _ _ _, HC.out.lower HK1.out.2.1 (by omega), HK1.out.2.2.1, grown_refl _ _⟩))
            have HK3 : Hid (PermIn mid e d1 d1 ∧ SortedIn lt mid e d1 ∧ RowM b d1 w1 ∧ w1.grownBy w1 (some b)) := ⟨permIn_refl _ _ _, sorted_out (HC.out.upper HK1.out.2.1 (by omega)) HK2.out.1 (Nat.le_refl _), HK2.out.2.2.1, grown_refl _ _⟩
            go_end0
            have hfin := finish hS HC.out HK1.out.2.1 (by omega) (by omega) (by omega) (permIn_mono _ _ _ _ _ _ (by omega) (by omega) (by omega) HK1.out.1) HK2.out.1 HK2.out.2.1 HK3.out.1 HK3.out.2.1
            exact ⟨rfl, d1, hfin.1, hfin.2, HK3.out.2.2.1, ((HG.out.trans HK1.out.2.2.2).trans HK2.out.2.2.2).trans HK3.out.2.2.2⟩
      · by_cases t2 : s = m
        · omega
        · have u1 : (s : Int) < (m : Int) := by omega
          have u2 : ¬ (m : Int) < (f : Int) := by omega
          have u3 : (a : Int) < (s : Int) := by omega
          have u4 : ¬ (s : Int) < (mid : Int) := by omega
          have u5 : (mid : Int) < (f : Int) := by omega
          have u6 : (f : Int) < (e : Int) := by omega
          have HK1 : Hid (PermIn s f d d ∧ (∀ t, d[t]! = d[rotI s m f t]!) ∧ RowM b d wr ∧ wr.grownBy wr (some b)) := ⟨permIn_refl _ _ _, fun t => by rw [rC_same s m f t (by omega) (by omega) (by omega)], HR.out, grown_refl _ _⟩
          have HK2 : Hid (PermIn a mid d d ∧ SortedIn lt a mid d ∧ RowM b d wr ∧ wr.grownBy wr (some b)) := ⟨permIn_refl _ _ _, HC.out.lower HK1.out.2.1 (by omega), HK1.out.2.2.1, grown_refl _ _⟩
          go_wp2_with (first | (go_at_call 23; refine ((IH.out mid f e d wr (by omega) (by omega) (by omega) (by have := (HK2.out.1.1.trans rfl); omega) (HK2.out.1.1.trans rfl) HK2.out.2.2.1 (smallM d d (smallM d d HSM.out (by omega) HK1.out.1) (by omega) HK2.out.1) (sorted_out (HC.out.p3 HK1.out.2.1) HK2.out.1 (Nat.le_refl _)) (sorted_out (HC.out.p4 HK1.out.2.1) HK2.out.1 (by omega))).at_ (HK2.out.1.1.trans rfl) _ _ _ (by omega) (by omega) (by omega)).mono ?_; rintro z w3 ⟨rfl, d3, hP3, h3, hR3, hG3⟩; have HK3 : Hid (PermIn mid e d d3 ∧ SortedIn lt mid e d3 ∧ RowM b d3 w3 ∧ wr.grownBy w3 (some b)) := ⟨hP3, h3, hR3, hG3⟩; clear hP3 h3 hR3 hG3))
          go_end0
          have hfin := finish hS HC.out HK1.out.2.1 (by omega) (by omega) (by omega) (permIn_mono _ _ _ _ _ _ (by omega) (by omega) (by omega) HK1.out.1) HK2.out.1 HK2.out.2.1 HK3.out.1 HK3.out.2.1
          exact ⟨rfl, d3, hfin.1, hfin.2, HK3.out.2.2.1, ((HG.out.trans HK1.out.2.2.2).trans HK2.out.2.2.2).trans HK3.out.2.2.2⟩

end Go.Proofs.Ybulkchng
