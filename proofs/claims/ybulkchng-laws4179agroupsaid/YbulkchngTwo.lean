/-
  LawS4179AGroup.
-/
import Derived.Test.YbulkchngSet3
namespace Go.Proofs.Ybulkchng
open Go.RowKit Go.Sort
attribute [local go_sem] run_store_float

theorem Hits.kept {ad : Option Addr} {b o k : Nat} {P Q : Nat → Nat} {w w' : World} (h : Hits ad b o k P Q w) (hg : w.grownBy w' none) : Hits ad b o k P Q w' :=
  ⟨h.ad, fun i hi => hg.cell (h.c0 i hi) (by simp), fun i hi => hg.cell (h.c1 i hi) (by simp), h.p, h.q⟩

theorem set3_new {w3 : World} {la lb lp : List (Nat × Nat)} {a b p : Option Addr × Option Addr × Nat × Nat × Nat × Nat} {n : Nat} (LA : Laid la a.1 a.2.1 a.2.2.1 a.2.2.2.1 n w3.heap.size (w3.heap.size + 1 + 1 + 1) w3) (LB : Laid lb b.1 b.2.1 b.2.2.1 b.2.2.2.1 n w3.heap.size (w3.heap.size + 1 + 1 + 1) w3) (LP : Laid lp p.1 p.2.1 p.2.2.1 p.2.2.2.1 n w3.heap.size (w3.heap.size + 1 + 1 + 1) w3) :
    Set3 la lb lp a b p n w3.heap.size ((((w3.alloc (.cells #[.slice a.1 la.length a.2.2.2.2.1, .slice a.2.1 la.length a.2.2.2.2.2, .int .i64 (-1)] 30)).alloc (.cells #[.slice b.1 lb.length b.2.2.2.2.1, .slice b.2.1 lb.length b.2.2.2.2.2, .int .i64 (-1)] 30)).alloc (.cells #[.slice p.1 lp.length p.2.2.2.2.1, .slice p.2.1 lp.length p.2.2.2.2.2, .int .i64 (-1)] 30)).alloc (.cells #[.string { data := #[111, 112, 116, 105, 111, 110, 97, 108] }, .float .f64 4607182418800017408, .iface 28 (.pointer (some ⟨w3.heap.size, 0, none⟩)), .string { data := #[111, 112, 116, 105, 111, 110, 97, 108] }, .float .f64 4611686018427387904, .iface 28 (.pointer (some ⟨w3.heap.size + 1, 0, none⟩)), .string { data := #[112, 114, 111, 104, 105, 98, 105, 116, 101, 100] }, .float .f64 4607182418800017408, .iface 28 (.pointer (some ⟨w3.heap.size + 1 + 1, 0, none⟩))] 50)) := by
  have f := four w3 (.cells #[.slice a.1 la.length a.2.2.2.2.1, .slice a.2.1 la.length a.2.2.2.2.2, .int .i64 (-1)] 30) (.cells #[.slice b.1 lb.length b.2.2.2.2.1, .slice b.2.1 lb.length b.2.2.2.2.2, .int .i64 (-1)] 30) (.cells #[.slice p.1 lp.length p.2.2.2.2.1, .slice p.2.1 lp.length p.2.2.2.2.2, .int .i64 (-1)] 30) (.cells #[.string { data := #[111, 112, 116, 105, 111, 110, 97, 108] }, .float .f64 4607182418800017408, .iface 28 (.pointer (some ⟨w3.heap.size, 0, none⟩)), .string { data := #[111, 112, 116, 105, 111, 110, 97, 108] }, .float .f64 4611686018427387904, .iface 28 (.pointer (some ⟨w3.heap.size + 1, 0, none⟩)), .string { data := #[112, 114, 111, 104, 105, 98, 105, 116, 101, 100] }, .float .f64 4607182418800017408, .iface 28 (.pointer (some ⟨w3.heap.size + 1 + 1, 0, none⟩))] 50)
  have g := (((World.grownBy_alloc w3 (.cells #[.slice a.1 la.length a.2.2.2.2.1, .slice a.2.1 la.length a.2.2.2.2.2, .int .i64 (-1)] 30) none).trans (World.grownBy_alloc _ (.cells #[.slice b.1 lb.length b.2.2.2.2.1, .slice b.2.1 lb.length b.2.2.2.2.2, .int .i64 (-1)] 30) none)).trans (World.grownBy_alloc _ (.cells #[.slice p.1 lp.length p.2.2.2.2.1, .slice p.2.1 lp.length p.2.2.2.2.2, .int .i64 (-1)] 30) none)).trans (World.grownBy_alloc _ (.cells #[.string { data := #[111, 112, 116, 105, 111, 110, 97, 108] }, .float .f64 4607182418800017408, .iface 28 (.pointer (some ⟨w3.heap.size, 0, none⟩)), .string { data := #[111, 112, 116, 105, 111, 110, 97, 108] }, .float .f64 4611686018427387904, .iface 28 (.pointer (some ⟨w3.heap.size + 1, 0, none⟩)), .string { data := #[112, 114, 111, 104, 105, 98, 105, 116, 101, 100] }, .float .f64 4607182418800017408, .iface 28 (.pointer (some ⟨w3.heap.size + 1 + 1, 0, none⟩))] 50) none)
  exact ⟨f.1, f.2.1, f.2.2.1, f.2.2.2.1, LA.kept g, LB.kept g, LP.kept g⟩

theorem scoreIn_le {l : List (Nat × Nat)} (h : ∀ x ∈ l, 1 ≤ x.2 ∧ x.2 ≤ 256) {d : Nat} (hd : d < 100000) (hh : hasB l.length (Dl l) d = true) : 1 ≤ scoreIn l d ∧ scoreIn l d ≤ 256 := by
  unfold scoreIn
  rw [if_pos hh]
  exact h _ (mem_getD (hasB_lt hd hh).1)

theorem scoreIn_top {l : List (Nat × Nat)} (h : ∀ x ∈ l, 1 ≤ x.2 ∧ x.2 ≤ 256) {d : Nat} (hd : d < 100000) : scoreIn l d ≤ 256 := by
  cases hh : hasB l.length (Dl l) d with
  | true => exact (scoreIn_le h hd hh).2
  | false => unfold scoreIn; rw [if_neg (by rw [hh]; simp)]; omega

theorem own_more {B g c i b16 S : Nat} {X : Cx} {w : World} (h : w.ownsRow B 40 2 (.slice (some ⟨g, 0, none⟩) ((offd X i).length + 1) c) ((offd X i).length + 1) (flat (offd X i) ++ [.int .i64 ((b16 : Int) + (i : Int)), .float .f64 (fl S)])) (hM : isM X i = true) (hS : sc X i = S) (hb : X.base = b16) : OwnM B (.slice (some ⟨g, 0, none⟩) ((offd X i).length + 1) c) (offd X (i + 1)).toArray w := by
  unfold OwnM
  rw [offd_succ, if_pos hM, hS, hb]
  have e : ((offd X i ++ [((b16 : Int) + (i : Int), S)]).toArray).size = (offd X i).length + 1 := by simp
  rw [e, List.toList_toArray, flat_append]
  exact h

set_option maxHeartbeats 8000000 in
set_option maxRecDepth 100000 in
theorem group_any (ad0 ad1 ad2 : Option Addr) (b0 o0 k0 c0 b1 o1 k1 c1 b2 o2 k2 c2 : Nat) (P0 Q0 P1 Q1 P2 Q2 : Nat → Nat) (n16 b16 lim : Nat) (w : World) (H0 : Hits ad0 b0 o0 k0 P0 Q0 w) (H1 : Hits ad1 b1 o1 k1 P1 Q1 w) (H2 : Hits ad2 b2 o2 k2 P2 Q2 w) (hn16 : n16 < 65536) (hb16 : b16 < 65536) (hlim : lim < 256) (hk0 : k0 ≤ 1024) (hk1 : k1 ≤ 1024) (hk2 : k2 ≤ 1024) :
    Calls Yba.prog 4 #[.slice ad0 k0 c0, .slice ad1 k1 c1, .slice ad2 k2 c2, .int .u16 n16, .int .u16 b16, .int .u8 lim] w fun e w' => e = .returned (.bool true) ∧ Below w.heap.size w w' := by
  obtain ⟨i0, z0, hi0, hz0, hz1, hz2, hz3⟩ := info_parts40
  have HI : Hid (Hits ad0 b0 o0 k0 P0 Q0 w ∧ Hits ad1 b1 o1 k1 P1 Q1 w ∧ Hits ad2 b2 o2 k2 P2 Q2 w) := ⟨H0, H1, H2⟩
  have q0 : decide ((1024 : Int) < (k0 : Int)) = false := by simp; omega
  have q1 : decide ((1024 : Int) < (k1 : Int)) = false := by simp; omega
  have q2 : decide ((1024 : Int) < (k2 : Int)) = false := by simp; omega
  have r0 : ¬ 1024 < k0 := by omega
  have r1 : ¬ 1024 < k1 := by omega
  have r2 : ¬ 1024 < k2 := by omega
  obtain ⟨n, hn⟩ : ∃ n : Nat, 1 + (n16 : Int) % 1024 = (n : Int) := ⟨1 + n16 % 1024, by omega⟩
  obtain ⟨limit, hlimit⟩ : ∃ l : Nat, 1 + (lim : Int) % 12 = (l : Int) := ⟨1 + lim % 12, by omega⟩
  have hnb : 1 ≤ n ∧ n ≤ 1024 := by omega
  have hlb : 1 ≤ limit ∧ limit ≤ 12 := by omega
  clear H0 H1 H2
  go_enter Yba.func4, Yba.ntmps4
  go_wp2_with (first
    | (go_at_call_of 5 (Value.slice ad0 k0 c0); refine (build_any ad0 b0 o0 k0 c0 n P0 Q0 w HI.out.1 hk0 (by omega) hnb.2).mono ?_; rintro z w1 ⟨vd0, vs0, la, rfl, hB, hg⟩; have HB0 : Hid (Built w.heap.size vd0 vs0 la n w1 ∧ w.grownBy w1 none) := ⟨hB, hg⟩; clear hB hg)
    | (go_at_call_of 5 (Value.slice ad1 k1 c1); refine (build_any ad1 b1 o1 k1 c1 n P1 Q1 w1 (HI.out.2.1.kept HB0.out.2) hk1 (by omega) hnb.2).mono ?_; rintro z w2 ⟨vd1, vs1, lb, rfl, hB, hg⟩; have HB1 : Hid (Built w1.heap.size vd1 vs1 lb n w2 ∧ w1.grownBy w2 none) := ⟨hB, hg⟩; clear hB hg)
    | (go_at_call_of 5 (Value.slice ad2 k2 c2); refine (build_any ad2 b2 o2 k2 c2 n P2 Q2 w2 (HI.out.2.2.kept (HB0.out.2.trans HB1.out.2)) hk2 (by omega) hnb.2).mono ?_; rintro z w3 ⟨vd2, vs2, lp, rfl, hB, hg⟩; have HB2 : Hid (Built w2.heap.size vd2 vs2 lp n w3 ∧ w2.grownBy w3 none) := ⟨hB, hg⟩; clear hB hg; obtain ⟨da0, db0, dc0, fa0, fb0, fc0, e1, e2, LA⟩ := (HB0.out.1.kept (HB1.out.2.trans HB2.out.2)).laid (w3.heap.size + 1 + 1 + 1); obtain ⟨da1, db1, dc1, fa1, fb1, fc1, e3, e4, LB⟩ := (HB1.out.1.kept HB2.out.2).laid (w3.heap.size + 1 + 1 + 1); obtain ⟨da2, db2, dc2, fa2, fb2, fc2, e5, e6, LP⟩ := HB2.out.1.laid (w3.heap.size + 1 + 1 + 1); subst e1; subst e2; subst e3; subst e4; subst e5; subst e6; obtain ⟨W7, hW7⟩ : ∃ W7, W7 = ((((w3.alloc (.cells #[.slice da0 la.length dc0, .slice fa0 la.length fc0, .int .i64 (-1)] 30)).alloc (.cells #[.slice da1 lb.length dc1, .slice fa1 lb.length fc1, .int .i64 (-1)] 30)).alloc (.cells #[.slice da2 lp.length dc2, .slice fa2 lp.length fc2, .int .i64 (-1)] 30)).alloc (.cells #[.string { data := #[111, 112, 116, 105, 111, 110, 97, 108] }, .float .f64 4607182418800017408, .iface 28 (.pointer (some ⟨w3.heap.size, 0, none⟩)), .string { data := #[111, 112, 116, 105, 111, 110, 97, 108] }, .float .f64 4611686018427387904, .iface 28 (.pointer (some ⟨w3.heap.size + 1, 0, none⟩)), .string { data := #[112, 114, 111, 104, 105, 98, 105, 116, 101, 100] }, .float .f64 4607182418800017408, .iface 28 (.pointer (some ⟨w3.heap.size + 1 + 1, 0, none⟩))] 50)) := ⟨_, rfl⟩; have HS7 : Hid (Set3 la lb lp (da0, fa0, db0, fb0, dc0, fc0) (da1, fa1, db1, fb1, dc1, fc1) (da2, fa2, db2, fb2, dc2, fc2) n w3.heap.size W7 ∧ W7.heap.size = w3.heap.size + 1 + 1 + 1 + 1 ∧ w3.grownBy W7 none) := (by rw [hW7]; exact ⟨set3_new (a := (da0, fa0, db0, fb0, dc0, fc0)) (b := (da1, fa1, db1, fb1, dc1, fc1)) (p := (da2, fa2, db2, fb2, dc2, fc2)) LA LB LP, by simp, (((World.grownBy_alloc _ _ none).trans (World.grownBy_alloc _ _ none)).trans (World.grownBy_alloc _ _ none)).trans (World.grownBy_alloc _ _ none)⟩); have HW7 := hW7.symm; have HL : Hid (Laid la da0 fa0 db0 fb0 n w3.heap.size (w3.heap.size + 1 + 1 + 1) w3 ∧ Laid lb da1 fa1 db1 fb1 n w3.heap.size (w3.heap.size + 1 + 1 + 1) w3 ∧ Laid lp da2 fa2 db2 fb2 n w3.heap.size (w3.heap.size + 1 + 1 + 1) w3 ∧ w.grownBy w3 none) := ⟨LA, LB, LP, (HB0.out.2.trans HB1.out.2).trans HB2.out.2⟩; clear LA LB LP hW7)
    | (go_at_call 9; refine (newGroup_any (tri w3.heap.size la lb lp (da0, fa0, db0, fb0, dc0, fc0) (da1, fa1, db1, fb1, dc1, fc1) (da2, fa2, db2, fb2, dc2, fc2) 0 b16 limit n) W7 (Nat.le_refl 3) (HS7.out.1.cls 0 b16 limit)).mono ?_; rintro z w8 ⟨rfl, hM8, hg8⟩; have HM8 : Hid (Mk (tri w3.heap.size la lb lp (da0, fa0, db0, fb0, dc0, fc0) (da1, fa1, db1, fb1, dc1, fc1) (da2, fa2, db2, fb2, dc2, fc2) 0 b16 limit n) W7.heap.size 3 w8 ∧ W7.grownBy w8 none) := ⟨hM8, hg8⟩; clear hM8 hg8)
    | (go_at_call 6; refine (seg_three (HS7.out.1.kept HM8.out.2) HM8.out.1 (by have := HS7.out.2.1; omega) hnb.2 hb16 hlb).mono ?_; rintro z w10 ⟨rfl, v, h, B, hc, hk, hs, f1, f2, f3, f4, f5⟩; have HC : Hid (Coll w8.heap.size limit v h (offd (tri w3.heap.size la lb lp (da0, fa0, db0, fb0, dc0, fc0) (da1, fa1, db1, fb1, dc1, fc1) (da2, fa2, db2, fb2, dc2, fc2) 0 b16 limit n) n).length B w10 ∧ Kept limit (offd (tri w3.heap.size la lb lp (da0, fa0, db0, fb0, dc0, fc0) (da1, fa1, db1, fb1, dc1, fc1) (da2, fa2, db2, fb2, dc2, fc2) 0 b16 limit n) n) h ∧ Small h ∧ w3.grownBy w10 none) := ⟨hc, hk, hs, (by have g := HS7.out.2.2.trans HM8.out.2; exact ⟨f2.trans g.os, f3.trans g.tape, f4.trans g.output, Nat.le_trans g.size f5, fun q hq _ => (f1 q hq).trans (g.block q hq (by simp))⟩)⟩; clear hc hk hs f1 f2 f3 f4 f5))
  obtain ⟨X, hX⟩ : ∃ X : Cx, X = tri w3.heap.size la lb lp (da0, fa0, db0, fb0, dc0, fc0) (da1, fa1, db1, fb1, dc1, fc1) (da2, fa2, db2, fb2, dc2, fc2) 0 b16 limit n := ⟨_, rfl⟩
  have HX : Hid ((∀ d, isM X d = ((hasB la.length (Dl la) d || hasB lb.length (Dl lb) d) && !hasB lp.length (Dl lp) d)) ∧ (∀ d, sc X d = scoreIn la d + 2 * scoreIn lb d) ∧ X.base = b16) := (by
    subst hX
    exact ⟨fun d => isM_tri _ _ _ _ _ _ _ _ _ _ _ d, fun d => sc_tri _ _ _ _ _ _ _ _ _ _ _ d, rfl⟩)
  have HC2 : Hid (Coll w8.heap.size limit v h (offd X n).length B w10 ∧ Kept limit (offd X n) h ∧ Small h ∧ w3.grownBy w10 none) := (by rw [hX]; exact HC.out)
  have HSmall : Hid (∀ x ∈ offd X n, x.2 < 1024) := fun x hx => (by
    obtain ⟨d, hd1, hd2⟩ := List.mem_filterMap.1 hx
    have hdn : d < n := by simpa using hd1
    split at hd2
    · injection hd2 with hd2
      rw [← hd2]
      show sc X d < 1024
      rw [HX.out.2.1 d]
      have s1 := scoreIn_top HL.out.1.sc (d := d) (by omega)
      have s2 := scoreIn_top HL.out.2.1.sc (d := d) (by omega)
      omega
    · cases hd2)
  clear HC HM8 HS7 hX
  go_loopw [24, 25] (fun cv vi wr => ∃ (i : Nat) (uv : Value), uv = cv ∧ vi = .int .i64 i ∧ i ≤ n ∧ OwnM w10.heap.size uv (offd X i).toArray wr ∧ w10.grownBy wr none) (fun _ vi _ => n - (intOf vi).toNat)
  case atStart => exact ⟨0, _, rfl, rfl, Nat.zero_le _, World.ownsRow_nil _ _ _ _, grown_refl _ _⟩
  case round =>
    obtain ⟨i, uv, rfl, rfl, hi, hO, hG⟩ := hrel
    have HO : Hid (OwnM w10.heap.size uv (offd X i).toArray wr ∧ w10.grownBy wr none) := ⟨hO, hG⟩
    clear hO hG
    by_cases hin : i < n
    · have hii : (i : Int) < (n : Int) := by omega
      have HLr : Hid (Laid la da0 fa0 db0 fb0 n w3.heap.size (w3.heap.size + 1 + 1 + 1) wr ∧ Laid lb da1 fa1 db1 fb1 n w3.heap.size (w3.heap.size + 1 + 1 + 1) wr ∧ Laid lp da2 fa2 db2 fb2 n w3.heap.size (w3.heap.size + 1 + 1 + 1) wr) := ⟨HL.out.1.kept (HC2.out.2.2.2.trans HO.out.2), HL.out.2.1.kept (HC2.out.2.2.2.trans HO.out.2), HL.out.2.2.1.kept (HC2.out.2.2.2.trans HO.out.2)⟩
      have hol := offd_length X i
      have hml : (offd X i).length + 1 ≤ maxLen := by unfold maxLen; omega
      have HOl : Hid (wr.ownsRow w10.heap.size 40 2 uv (offd X i).length (flat (offd X i))) := (by have := HO.out.1; unfold OwnM at this; simp at this; exact this)
      have hw10 := HO.out.2.size
      cases hA : hasB la.length (Dl la) i with
      | true =>
        cases hB : hasB lb.length (Dl lb) i with
        | true =>
          cases hP : hasB lp.length (Dl lp) i with
          | true =>
            have HM : Hid (isM X i = false) := (by show isM X i = false; rw [HX.out.1 i, hA, hB, hP]; rfl)
            go_wp2_with (first | (go_at_call_of 10 (Value.slice da0 la.length dc0); refine (find_any da0 fa0 db0 fb0 dc0 fc0 la i wr (up_list HLr.out.1.up) (by omega) HLr.out.1.len (fun q => ⟨(HLr.out.1.d1 q).1, (HLr.out.1.s1 q).1⟩) HLr.out.1.cd HLr.out.1.cs).mono ?_; rintro z w11 ⟨rfl, rfl⟩; rw [hA]) | (go_at_call_of 10 (Value.slice da1 lb.length dc1); refine (find_any da1 fa1 db1 fb1 dc1 fc1 lb i wr (up_list HLr.out.2.1.up) (by omega) HLr.out.2.1.len (fun q => ⟨(HLr.out.2.1.d1 q).1, (HLr.out.2.1.s1 q).1⟩) HLr.out.2.1.cd HLr.out.2.1.cs).mono ?_; rintro z w11 ⟨rfl, rfl⟩; rw [hB]) | (go_at_call_of 10 (Value.slice da2 lp.length dc2); refine (find_any da2 fa2 db2 fb2 dc2 fc2 lp i wr (up_list HLr.out.2.2.up) (by omega) HLr.out.2.2.len (fun q => ⟨(HLr.out.2.2.d1 q).1, (HLr.out.2.2.s1 q).1⟩) HLr.out.2.2.cd HLr.out.2.2.cs).mono ?_; rintro z w11 ⟨rfl, rfl⟩; rw [hP]))
            go_roundw
            case measure => simp [intOf]; omega
            case rel =>
              refine ⟨i + 1, uv, rfl, rfl, by omega, ?_, HO.out.2⟩
              rw [offd_succ, HM.out]; simpa using HO.out.1
          | false =>
            have sA := scoreIn_le HLr.out.1.sc (d := i) (by omega) hA
            have sB := scoreIn_le HLr.out.2.1.sc (d := i) (by omega) hB
            have hfa : floatBits .add .f64 0 (fl (scoreIn la i)) = some (fl (scoreIn la i)) := by have := add_fl 0 (scoreIn la i) (by omega) (by omega); rw [fl_zero, Nat.zero_add] at this; exact this
            have af := fun w => run_float_arith (P := Yba.prog) w .add 35 .f64 _ _ _ hfa
            have hfm : floatBits .mul .f64 4611686018427387904 (fl (scoreIn lb i)) = some (fl (2 * scoreIn lb i)) := by have := mul_fl 2 (scoreIn lb i) (by omega) (by omega) (by omega); rw [fl_2] at this; exact this
            have mf := fun w => run_float_arith (P := Yba.prog) w .mul 35 .f64 _ _ _ hfm
            have hfb : floatBits .add .f64 (fl (scoreIn la i)) (fl (2 * scoreIn lb i)) = some (fl (scoreIn la i + 2 * scoreIn lb i)) := add_fl (scoreIn la i) (2 * scoreIn lb i) (by omega) (by omega)
            have bf := fun w => run_float_arith (P := Yba.prog) w .add 35 .f64 _ _ _ hfb
            have HM : Hid (isM X i = true ∧ sc X i = (scoreIn la i + 2 * scoreIn lb i)) := ⟨by simp [HX.out.1 i, hA, hB, hP], by have := HX.out.2.1 i; omega⟩
            go_wp2_with (first | (go_at_call_of 10 (Value.slice da0 la.length dc0); refine (find_any da0 fa0 db0 fb0 dc0 fc0 la i wr (up_list HLr.out.1.up) (by omega) HLr.out.1.len (fun q => ⟨(HLr.out.1.d1 q).1, (HLr.out.1.s1 q).1⟩) HLr.out.1.cd HLr.out.1.cs).mono ?_; rintro z w11 ⟨rfl, rfl⟩; rw [hA]) | (go_at_call_of 10 (Value.slice da1 lb.length dc1); refine (find_any da1 fa1 db1 fb1 dc1 fc1 lb i wr (up_list HLr.out.2.1.up) (by omega) HLr.out.2.1.len (fun q => ⟨(HLr.out.2.1.d1 q).1, (HLr.out.2.1.s1 q).1⟩) HLr.out.2.1.cd HLr.out.2.1.cs).mono ?_; rintro z w11 ⟨rfl, rfl⟩; rw [hB]) | (go_at_call_of 10 (Value.slice da2 lp.length dc2); refine (find_any da2 fa2 db2 fb2 dc2 fc2 lp i wr (up_list HLr.out.2.2.up) (by omega) HLr.out.2.2.len (fun q => ⟨(HLr.out.2.2.d1 q).1, (HLr.out.2.2.s1 q).1⟩) HLr.out.2.2.cd HLr.out.2.2.cs).mono ?_; rintro z w11 ⟨rfl, rfl⟩; rw [hP]) | (at_builtin; refine wpList_append_lies _ (by rfl) (.tmp 148) (.tmp 154) 32 (by rfl) w10.heap.size 40 i0 z0 2 16 Yba.underlying32 hi0 hz0 hz1 hz2 hz3 (by omega) uv (offd X i).length (flat (offd X i)) (by rfl) (World.ownsRow.kept HOl.out (World.grownBy_alloc _ _ none) (Classical.em _)) ⟨wr.heap.size, 0, none⟩ 1 1 [.int .i64 ((b16 : Int) + (i : Int)), .float .f64 (fl (scoreIn la i + 2 * scoreIn lb i))] (by rfl) (by rfl) (World.news_of_block (cs := #[.int .i64 ((b16 : Int) + (i : Int)), .float .f64 (fl (scoreIn la i + 2 * scoreIn lb i))]) (t := 40) (fr := (0, 0)) (heap_alloc_new _ _)) (by simp [Value.oneCell']) (by omega) hml (by omega) (by simp; omega) (wr.heap.size + 1) (by simp) ?_; intro g5 c5 w5 hown5 hgrow5 hat5 hlt5; have HO6 : Hid (w5.ownsRow w10.heap.size 40 2 (.slice (some ⟨g5, 0, none⟩) ((offd X i).length + 1) c5) ((offd X i).length + 1) (flat (offd X i) ++ [.int .i64 ((b16 : Int) + (i : Int)), .float .f64 (fl (scoreIn la i + 2 * scoreIn lb i))]) ∧ w10.grownBy w5 none) := ⟨hown5, grown_rows (HO.out.2.trans (World.grownBy_alloc _ _ none)) hgrow5 (fun k e => (World.ownsRow.lt HOl.out k e).1)⟩; clear hown5 hgrow5 hat5 hlt5))
            go_roundw
            case measure => simp [intOf]; omega
            case rel =>
              refine ⟨i + 1, _, rfl, rfl, by omega, ?_, HO6.out.2⟩
              exact own_more HO6.out.1 HM.out.1 HM.out.2 HX.out.2.2
        | false =>
          cases hP : hasB lp.length (Dl lp) i with
          | true =>
            have HM : Hid (isM X i = false) := (by show isM X i = false; rw [HX.out.1 i, hA, hB, hP]; rfl)
            go_wp2_with (first | (go_at_call_of 10 (Value.slice da0 la.length dc0); refine (find_any da0 fa0 db0 fb0 dc0 fc0 la i wr (up_list HLr.out.1.up) (by omega) HLr.out.1.len (fun q => ⟨(HLr.out.1.d1 q).1, (HLr.out.1.s1 q).1⟩) HLr.out.1.cd HLr.out.1.cs).mono ?_; rintro z w11 ⟨rfl, rfl⟩; rw [hA]) | (go_at_call_of 10 (Value.slice da1 lb.length dc1); refine (find_any da1 fa1 db1 fb1 dc1 fc1 lb i wr (up_list HLr.out.2.1.up) (by omega) HLr.out.2.1.len (fun q => ⟨(HLr.out.2.1.d1 q).1, (HLr.out.2.1.s1 q).1⟩) HLr.out.2.1.cd HLr.out.2.1.cs).mono ?_; rintro z w11 ⟨rfl, rfl⟩; rw [hB]) | (go_at_call_of 10 (Value.slice da2 lp.length dc2); refine (find_any da2 fa2 db2 fb2 dc2 fc2 lp i wr (up_list HLr.out.2.2.up) (by omega) HLr.out.2.2.len (fun q => ⟨(HLr.out.2.2.d1 q).1, (HLr.out.2.2.s1 q).1⟩) HLr.out.2.2.cd HLr.out.2.2.cs).mono ?_; rintro z w11 ⟨rfl, rfl⟩; rw [hP]))
            go_roundw
            case measure => simp [intOf]; omega
            case rel =>
              refine ⟨i + 1, uv, rfl, rfl, by omega, ?_, HO.out.2⟩
              rw [offd_succ, HM.out]; simpa using HO.out.1
          | false =>
            have sA := scoreIn_le HLr.out.1.sc (d := i) (by omega) hA
            have zB : scoreIn lb i = 0 := by unfold scoreIn; rw [if_neg (by rw [hB]; simp)]
            have hfa : floatBits .add .f64 0 (fl (scoreIn la i)) = some (fl (scoreIn la i)) := by have := add_fl 0 (scoreIn la i) (by omega) (by omega); rw [fl_zero, Nat.zero_add] at this; exact this
            have af := fun w => run_float_arith (P := Yba.prog) w .add 35 .f64 _ _ _ hfa
            have HM : Hid (isM X i = true ∧ sc X i = (scoreIn la i)) := ⟨by simp [HX.out.1 i, hA, hB, hP], by have := HX.out.2.1 i; omega⟩
            go_wp2_with (first | (go_at_call_of 10 (Value.slice da0 la.length dc0); refine (find_any da0 fa0 db0 fb0 dc0 fc0 la i wr (up_list HLr.out.1.up) (by omega) HLr.out.1.len (fun q => ⟨(HLr.out.1.d1 q).1, (HLr.out.1.s1 q).1⟩) HLr.out.1.cd HLr.out.1.cs).mono ?_; rintro z w11 ⟨rfl, rfl⟩; rw [hA]) | (go_at_call_of 10 (Value.slice da1 lb.length dc1); refine (find_any da1 fa1 db1 fb1 dc1 fc1 lb i wr (up_list HLr.out.2.1.up) (by omega) HLr.out.2.1.len (fun q => ⟨(HLr.out.2.1.d1 q).1, (HLr.out.2.1.s1 q).1⟩) HLr.out.2.1.cd HLr.out.2.1.cs).mono ?_; rintro z w11 ⟨rfl, rfl⟩; rw [hB]) | (go_at_call_of 10 (Value.slice da2 lp.length dc2); refine (find_any da2 fa2 db2 fb2 dc2 fc2 lp i wr (up_list HLr.out.2.2.up) (by omega) HLr.out.2.2.len (fun q => ⟨(HLr.out.2.2.d1 q).1, (HLr.out.2.2.s1 q).1⟩) HLr.out.2.2.cd HLr.out.2.2.cs).mono ?_; rintro z w11 ⟨rfl, rfl⟩; rw [hP]) | (at_builtin; refine wpList_append_lies _ (by rfl) (.tmp 148) (.tmp 154) 32 (by rfl) w10.heap.size 40 i0 z0 2 16 Yba.underlying32 hi0 hz0 hz1 hz2 hz3 (by omega) uv (offd X i).length (flat (offd X i)) (by rfl) (World.ownsRow.kept HOl.out (World.grownBy_alloc _ _ none) (Classical.em _)) ⟨wr.heap.size, 0, none⟩ 1 1 [.int .i64 ((b16 : Int) + (i : Int)), .float .f64 (fl (scoreIn la i))] (by rfl) (by rfl) (World.news_of_block (cs := #[.int .i64 ((b16 : Int) + (i : Int)), .float .f64 (fl (scoreIn la i))]) (t := 40) (fr := (0, 0)) (heap_alloc_new _ _)) (by simp [Value.oneCell']) (by omega) hml (by omega) (by simp; omega) (wr.heap.size + 1) (by simp) ?_; intro g5 c5 w5 hown5 hgrow5 hat5 hlt5; have HO6 : Hid (w5.ownsRow w10.heap.size 40 2 (.slice (some ⟨g5, 0, none⟩) ((offd X i).length + 1) c5) ((offd X i).length + 1) (flat (offd X i) ++ [.int .i64 ((b16 : Int) + (i : Int)), .float .f64 (fl (scoreIn la i))]) ∧ w10.grownBy w5 none) := ⟨hown5, grown_rows (HO.out.2.trans (World.grownBy_alloc _ _ none)) hgrow5 (fun k e => (World.ownsRow.lt HOl.out k e).1)⟩; clear hown5 hgrow5 hat5 hlt5))
            go_roundw
            case measure => simp [intOf]; omega
            case rel =>
              refine ⟨i + 1, _, rfl, rfl, by omega, ?_, HO6.out.2⟩
              exact own_more HO6.out.1 HM.out.1 HM.out.2 HX.out.2.2
      | false =>
        cases hB : hasB lb.length (Dl lb) i with
        | true =>
          cases hP : hasB lp.length (Dl lp) i with
          | true =>
            have HM : Hid (isM X i = false) := (by show isM X i = false; rw [HX.out.1 i, hA, hB, hP]; rfl)
            go_wp2_with (first | (go_at_call_of 10 (Value.slice da0 la.length dc0); refine (find_any da0 fa0 db0 fb0 dc0 fc0 la i wr (up_list HLr.out.1.up) (by omega) HLr.out.1.len (fun q => ⟨(HLr.out.1.d1 q).1, (HLr.out.1.s1 q).1⟩) HLr.out.1.cd HLr.out.1.cs).mono ?_; rintro z w11 ⟨rfl, rfl⟩; rw [hA]) | (go_at_call_of 10 (Value.slice da1 lb.length dc1); refine (find_any da1 fa1 db1 fb1 dc1 fc1 lb i wr (up_list HLr.out.2.1.up) (by omega) HLr.out.2.1.len (fun q => ⟨(HLr.out.2.1.d1 q).1, (HLr.out.2.1.s1 q).1⟩) HLr.out.2.1.cd HLr.out.2.1.cs).mono ?_; rintro z w11 ⟨rfl, rfl⟩; rw [hB]) | (go_at_call_of 10 (Value.slice da2 lp.length dc2); refine (find_any da2 fa2 db2 fb2 dc2 fc2 lp i wr (up_list HLr.out.2.2.up) (by omega) HLr.out.2.2.len (fun q => ⟨(HLr.out.2.2.d1 q).1, (HLr.out.2.2.s1 q).1⟩) HLr.out.2.2.cd HLr.out.2.2.cs).mono ?_; rintro z w11 ⟨rfl, rfl⟩; rw [hP]))
            go_roundw
            case measure => simp [intOf]; omega
            case rel =>
              refine ⟨i + 1, uv, rfl, rfl, by omega, ?_, HO.out.2⟩
              rw [offd_succ, HM.out]; simpa using HO.out.1
          | false =>
            have sB := scoreIn_le HLr.out.2.1.sc (d := i) (by omega) hB
            have zA : scoreIn la i = 0 := by unfold scoreIn; rw [if_neg (by rw [hA]; simp)]
            have hfm : floatBits .mul .f64 4611686018427387904 (fl (scoreIn lb i)) = some (fl (2 * scoreIn lb i)) := by have := mul_fl 2 (scoreIn lb i) (by omega) (by omega) (by omega); rw [fl_2] at this; exact this
            have mf := fun w => run_float_arith (P := Yba.prog) w .mul 35 .f64 _ _ _ hfm
            have hfa : floatBits .add .f64 0 (fl (2 * scoreIn lb i)) = some (fl (2 * scoreIn lb i)) := by have := add_fl 0 (2 * scoreIn lb i) (by omega) (by omega); rw [fl_zero, Nat.zero_add] at this; exact this
            have af := fun w => run_float_arith (P := Yba.prog) w .add 35 .f64 _ _ _ hfa
            have HM : Hid (isM X i = true ∧ sc X i = (2 * scoreIn lb i)) := ⟨by simp [HX.out.1 i, hA, hB, hP], by have := HX.out.2.1 i; omega⟩
            go_wp2_with (first | (go_at_call_of 10 (Value.slice da0 la.length dc0); refine (find_any da0 fa0 db0 fb0 dc0 fc0 la i wr (up_list HLr.out.1.up) (by omega) HLr.out.1.len (fun q => ⟨(HLr.out.1.d1 q).1, (HLr.out.1.s1 q).1⟩) HLr.out.1.cd HLr.out.1.cs).mono ?_; rintro z w11 ⟨rfl, rfl⟩; rw [hA]) | (go_at_call_of 10 (Value.slice da1 lb.length dc1); refine (find_any da1 fa1 db1 fb1 dc1 fc1 lb i wr (up_list HLr.out.2.1.up) (by omega) HLr.out.2.1.len (fun q => ⟨(HLr.out.2.1.d1 q).1, (HLr.out.2.1.s1 q).1⟩) HLr.out.2.1.cd HLr.out.2.1.cs).mono ?_; rintro z w11 ⟨rfl, rfl⟩; rw [hB]) | (go_at_call_of 10 (Value.slice da2 lp.length dc2); refine (find_any da2 fa2 db2 fb2 dc2 fc2 lp i wr (up_list HLr.out.2.2.up) (by omega) HLr.out.2.2.len (fun q => ⟨(HLr.out.2.2.d1 q).1, (HLr.out.2.2.s1 q).1⟩) HLr.out.2.2.cd HLr.out.2.2.cs).mono ?_; rintro z w11 ⟨rfl, rfl⟩; rw [hP]) | (at_builtin; refine wpList_append_lies _ (by rfl) (.tmp 148) (.tmp 154) 32 (by rfl) w10.heap.size 40 i0 z0 2 16 Yba.underlying32 hi0 hz0 hz1 hz2 hz3 (by omega) uv (offd X i).length (flat (offd X i)) (by rfl) (World.ownsRow.kept HOl.out (World.grownBy_alloc _ _ none) (Classical.em _)) ⟨wr.heap.size, 0, none⟩ 1 1 [.int .i64 ((b16 : Int) + (i : Int)), .float .f64 (fl (2 * scoreIn lb i))] (by rfl) (by rfl) (World.news_of_block (cs := #[.int .i64 ((b16 : Int) + (i : Int)), .float .f64 (fl (2 * scoreIn lb i))]) (t := 40) (fr := (0, 0)) (heap_alloc_new _ _)) (by simp [Value.oneCell']) (by omega) hml (by omega) (by simp; omega) (wr.heap.size + 1) (by simp) ?_; intro g5 c5 w5 hown5 hgrow5 hat5 hlt5; have HO6 : Hid (w5.ownsRow w10.heap.size 40 2 (.slice (some ⟨g5, 0, none⟩) ((offd X i).length + 1) c5) ((offd X i).length + 1) (flat (offd X i) ++ [.int .i64 ((b16 : Int) + (i : Int)), .float .f64 (fl (2 * scoreIn lb i))]) ∧ w10.grownBy w5 none) := ⟨hown5, grown_rows (HO.out.2.trans (World.grownBy_alloc _ _ none)) hgrow5 (fun k e => (World.ownsRow.lt HOl.out k e).1)⟩; clear hown5 hgrow5 hat5 hlt5))
            go_roundw
            case measure => simp [intOf]; omega
            case rel =>
              refine ⟨i + 1, _, rfl, rfl, by omega, ?_, HO6.out.2⟩
              exact own_more HO6.out.1 HM.out.1 HM.out.2 HX.out.2.2
        | false =>
          cases hP : hasB lp.length (Dl lp) i with
          | true =>
            have HM : Hid (isM X i = false) := (by show isM X i = false; rw [HX.out.1 i, hA, hB, hP]; rfl)
            go_wp2_with (first | (go_at_call_of 10 (Value.slice da0 la.length dc0); refine (find_any da0 fa0 db0 fb0 dc0 fc0 la i wr (up_list HLr.out.1.up) (by omega) HLr.out.1.len (fun q => ⟨(HLr.out.1.d1 q).1, (HLr.out.1.s1 q).1⟩) HLr.out.1.cd HLr.out.1.cs).mono ?_; rintro z w11 ⟨rfl, rfl⟩; rw [hA]) | (go_at_call_of 10 (Value.slice da1 lb.length dc1); refine (find_any da1 fa1 db1 fb1 dc1 fc1 lb i wr (up_list HLr.out.2.1.up) (by omega) HLr.out.2.1.len (fun q => ⟨(HLr.out.2.1.d1 q).1, (HLr.out.2.1.s1 q).1⟩) HLr.out.2.1.cd HLr.out.2.1.cs).mono ?_; rintro z w11 ⟨rfl, rfl⟩; rw [hB]) | (go_at_call_of 10 (Value.slice da2 lp.length dc2); refine (find_any da2 fa2 db2 fb2 dc2 fc2 lp i wr (up_list HLr.out.2.2.up) (by omega) HLr.out.2.2.len (fun q => ⟨(HLr.out.2.2.d1 q).1, (HLr.out.2.2.s1 q).1⟩) HLr.out.2.2.cd HLr.out.2.2.cs).mono ?_; rintro z w11 ⟨rfl, rfl⟩; rw [hP]))
            go_roundw
            case measure => simp [intOf]; omega
            case rel =>
              refine ⟨i + 1, uv, rfl, rfl, by omega, ?_, HO.out.2⟩
              rw [offd_succ, HM.out]; simpa using HO.out.1
          | false =>
            have HM : Hid (isM X i = false) := (by show isM X i = false; rw [HX.out.1 i, hA, hB, hP]; rfl)
            go_wp2_with (first | (go_at_call_of 10 (Value.slice da0 la.length dc0); refine (find_any da0 fa0 db0 fb0 dc0 fc0 la i wr (up_list HLr.out.1.up) (by omega) HLr.out.1.len (fun q => ⟨(HLr.out.1.d1 q).1, (HLr.out.1.s1 q).1⟩) HLr.out.1.cd HLr.out.1.cs).mono ?_; rintro z w11 ⟨rfl, rfl⟩; rw [hA]) | (go_at_call_of 10 (Value.slice da1 lb.length dc1); refine (find_any da1 fa1 db1 fb1 dc1 fc1 lb i wr (up_list HLr.out.2.1.up) (by omega) HLr.out.2.1.len (fun q => ⟨(HLr.out.2.1.d1 q).1, (HLr.out.2.1.s1 q).1⟩) HLr.out.2.1.cd HLr.out.2.1.cs).mono ?_; rintro z w11 ⟨rfl, rfl⟩; rw [hB]) | (go_at_call_of 10 (Value.slice da2 lp.length dc2); refine (find_any da2 fa2 db2 fb2 dc2 fc2 lp i wr (up_list HLr.out.2.2.up) (by omega) HLr.out.2.2.len (fun q => ⟨(HLr.out.2.2.d1 q).1, (HLr.out.2.2.s1 q).1⟩) HLr.out.2.2.cd HLr.out.2.2.cs).mono ?_; rintro z w11 ⟨rfl, rfl⟩; rw [hP]))
            go_roundw
            case measure => simp [intOf]; omega
            case rel =>
              refine ⟨i + 1, uv, rfl, rfl, by omega, ?_, HO.out.2⟩
              rw [offd_succ, HM.out]; simpa using HO.out.1
    · have hii : ¬ (i : Int) < (n : Int) := by omega
      obtain rfl : i = n := by omega
      have HCr : Hid (Coll w8.heap.size limit v h (offd X i).length B wr) := HC2.out.1.kept HO.out.2 (by simp) (by simp)
      have x2 := HCr.out.c2
      have x4 := HCr.out.c4
      have hmin := kept_size HC2.out.2.1
      have hol := offd_length X i
      have hle := HC2.out.2.1.le
      rcases HO.out.1.2 with ⟨e, h0⟩ | ⟨g, c, cur, e, r1, r2, r3, r4⟩
      · have h0 : (offd X i).length = 0 := by simpa using h0
        subst e
        have hh0 : h.size = 0 := by rw [h0] at hmin; omega
        rw [h0] at x2
        have HSm : Hid (∀ w6, w10.grownBy w6 none → Calls Yba.prog 7 #[.pointer (some ⟨w8.heap.size, 0, none⟩), .slice none 0 0] w6 fun e w' => e = .returned (.bool true) ∧ w6.grownBy w' none) := fun w6 hg6 => (by
          have := same_any w8.heap.size limit v h (offd X i).length B w6 (HC2.out.1.kept hg6 (by simp) (by simp)) (by omega) HC2.out.2.2.1 none 0 0 #[] (fun q => by omega) (by omega) (fun H _ _ t ht => by omega)
          rw [hh0] at this
          exact this)
        go_wp2_with (first
          | (go_at_call 8; refine (top_nil limit wr).mono ?_; rintro z w6 ⟨rfl, hg6⟩)
          | (go_at_call 7; refine (HSm.out w6 (HO.out.2.trans hg6)).mono ?_; rintro z w7 ⟨rfl, hg7⟩))
        go_ret
        have gA := (((HL.out.2.2.2.trans HC2.out.2.2.2).trans HO.out.2).trans hg6).trans hg7
        exact ⟨rfl, ⟨gA.os, gA.tape, gA.output, gA.size, fun k hk => gA.block k hk (by simp)⟩⟩
      · have e' : uv = .slice (some ⟨g, 0, none⟩) (offd X i).length c := by simpa using e
        subst e'
        have hcap : (offd X i).length ≤ c := by simpa using r3
        have HOm : Hid (OwnM w10.heap.size (.slice (some ⟨g, 0, none⟩) (offd X i).length c) (offd X i).toArray wr) := HO.out.1
        have HSC : Hid (∀ t, t < (offd X i).toArray.size → (offd X i).toArray[t]!.2 < 1024) := fun t ht => (by
          have hm : (offd X i).toArray[t]! ∈ offd X i := by rw [getElem!_pos _ t ht]; simp
          exact HSmall.out _ hm)
        have HK : Hid (Kept limit ((offd X i).toArray).toList h) := HC2.out.2.1
        have h1024 : (offd X i).length ≤ 1024 := by omega
        have HSz : Hid ((offd X i).toArray.size = (offd X i).length) := (show _ = _ by simp)
        have hml : h.size ≤ (offd X i).length := by omega
        clear r1 r2 r3 r4 e
        go_wp2_with (first
          | (go_at_call 8; refine (top_any g c (offd X i).length limit (offd X i).toArray wr (by simp) HOm.out.rowS.2 HSC.out h1024 hcap hlb.2).mono ?_; rintro z w6 ⟨A, k6, rfl, hP6, hS6, hR6, hG6⟩; rw [hmin]; have H6 : Hid (PermIn 0 (offd X i).length (offd X i).toArray A ∧ SortedIn ltTop 0 (offd X i).length A ∧ RowM g A w6 ∧ w10.grownBy w6 none) := ⟨hP6, hS6, hR6, grown_rows HO.out.2 hG6 (fun k e => by injection e with e; subst e; exact HOm.out.rowS.1)⟩; clear hP6 hS6 hR6 hG6)
          | (go_at_call 7; refine (same_any w8.heap.size limit v h (offd X i).length B w6 (HC2.out.1.kept H6.out.2.2.2 (by simp) (by simp)) (by omega) HC2.out.2.2.1 (some ⟨g, 0, none⟩) g k6 A (fun _ => ⟨rfl, H6.out.2.2.1⟩) (by have := H6.out.1.1; rw [HSz.out] at this; omega) (kept_same (d := (offd X i).toArray) HK.out (by rw [HSz.out]; exact H6.out.1) (by rw [HSz.out]; exact H6.out.2.1))).mono ?_; rintro z w7 ⟨rfl, hg7⟩))
        go_ret
        have gA := ((HL.out.2.2.2.trans HC2.out.2.2.2).trans H6.out.2.2.2).trans hg7
        exact ⟨rfl, ⟨gA.os, gA.tape, gA.output, gA.size, fun k hk => gA.block k hk (by simp)⟩⟩
end Go.Proofs.Ybulkchng
