/-
  (*collector).segment, the root a group.
-/
import Derived.Test.YbulkchngOne
namespace Go.Proofs.Ybulkchng
open Go.RowKit
attribute [local go_sem] run_store_float

set_option maxHeartbeats 1000000 in
set_option maxRecDepth 100000 in
theorem segment_group (X : Cx) (s : Sem X) (g : Nat) (w : World) (hM : Mk X g X.N w) (hC : Cls X w) (hc : Coll X.cb X.limit (.slice none 0 0) #[] 0 w.heap.size w) (hF : Fam X 0 w) (hgc : g ≠ X.cb ∧ ¬ isS X g) (hcc : X.clb ≠ X.cb ∧ ¬ isS X X.clb) (hpp : ∀ pv k, w.cell? ⟨g, 3, none⟩ = some pv → pv.ownBlock = some k → k ≠ X.cb ∧ ¬ isS X k) (hdb : ∀ u, u < X.N → (X.L u).db ≤ w.heap.size ∧ (X.L u).fb ≤ w.heap.size) :
    Calls Yba.prog 6 #[.pointer (some ⟨X.cb, 0, none⟩), .iface 44 (.pointer (some ⟨g, 0, none⟩)), .int .i64 X.base, .int .i64 X.n] w fun e w' => e = .returned (.tuple #[]) ∧ ∃ v h B, Coll X.cb X.limit v h (offd X X.n).length B w' ∧ Kept X.limit (offd X X.n) h ∧ Small h ∧ Frm w.heap.size (Wr X) w w' := by
  obtain ⟨i0, z0, hi0, hz0, hz1, hz2, hz3⟩ := info_parts50
  have HT : Hid (Sem X ∧ Mk X g X.N w ∧ Cls X w ∧ w.grownBy w none ∧ (X.cb = X.cb ∧ X.base = X.base ∧ X.n = X.n ∧ X.limit = X.limit ∧ X.m = X.m ∧ X.N = X.N ∧ X.L = X.L ∧ X.D = X.D ∧ X.S = X.S ∧ X.boost = X.boost) ∧ Coll X.cb X.limit (.slice none 0 0) #[] 0 w.heap.size w ∧ Fam X 0 w ∧ (g ≠ X.cb ∧ ¬ isS X g) ∧ (X.clb ≠ X.cb ∧ ¬ isS X X.clb) ∧ (∀ pv k, w.cell? ⟨g, 3, none⟩ = some pv → pv.ownBlock = some k → k ≠ X.cb ∧ ¬ isS X k) ∧ (∀ u, u < X.N → (X.L u).db ≤ w.heap.size ∧ (X.L u).fb ≤ w.heap.size)) := ⟨s, hM, hC, grown_refl _ _, ⟨rfl, rfl, rfl, rfl, rfl, rfl, rfl, rfl, rfl, rfl⟩, hc, hF, hgc, hcc, hpp, hdb⟩
  have g0 := hM.g0
  have g1 := hM.g1
  have han := assert_yes
  clear s hM hC hc hF hgc hcc hpp hdb
  go_enter Yba.func6, Yba.ntmps6
  go_wp2
  go_loopw [10, 39] (fun cv vi wr => ∃ (i : Nat) (uv : Value), uv = cv ∧ vi = .int .i64 i ∧ i ≤ X.N ∧ wr.ownsRow w.heap.size 50 3 uv (min i X.m) (cls X (min i X.m)) ∧ w.grownBy wr none) (fun _ vi _ => X.N - (intOf vi).toNat)
  case atStart => exact ⟨0, _, rfl, rfl, Nat.zero_le _, by rw [Nat.zero_min]; exact World.ownsRow_nil _ _ _ _, grown_refl _ _⟩
  case round =>
    obtain ⟨i, uv, rfl, rfl, hi, hO, hG⟩ := hrel
    have HO : Hid (wr.ownsRow w.heap.size 50 3 uv (min i X.m) (cls X (min i X.m)) ∧ w.grownBy wr none) := ⟨hO, hG⟩
    clear hO hG
    have hN3 := HT.out.1.N3
    by_cases hiN : i < X.N
    · have hii : (i : Int) < (X.N : Int) := by omega
      have k0 := HO.out.2.cell (HT.out.2.2.1.k0 i hiN) (by simp)
      have k1 := HO.out.2.cell (HT.out.2.2.1.k1 i hiN) (by simp)
      have k2 := HO.out.2.cell (HT.out.2.2.1.k2 i hiN) (by simp)
      unfold scv at k2
      unfold occ at k0
      by_cases him : i < X.m
      · rw [if_pos him] at k0
        have hmin : min i X.m = i := by omega
        have hmin2 : min (i + 1) X.m = i + 1 := by omega
        have ho := HO.out.1
        rw [hmin] at ho
        have HOi : Hid (wr.ownsRow w.heap.size 50 3 uv i (cls X i)) := ho
        clear ho hmin
        have hsw := HO.out.2.size
        have hml : i + 1 ≤ maxLen := by unfold maxLen; omega
        go_wp2_with (at_builtin; refine wpList_append_lies _ (by rfl) (.tmp 46) (.tmp 48) 51 (by rfl) w.heap.size 50 i0 z0 3 40 Yba.underlying51 hi0 hz0 hz1 hz2 hz3 (by omega) uv i (cls X i) (by rfl) (World.ownsRow.kept HOi.out ((World.grownBy_alloc _ _ none).trans (World.grownBy_alloc _ _ none)) (Classical.em _)) ⟨wr.heap.size + 1, 0, none⟩ 1 1 [.string { data := #[111, 112, 116, 105, 111, 110, 97, 108] }, .float .f64 (fl (X.boost i)), .iface 28 (.pointer (some ⟨(X.L i).sb, 0, none⟩))] (by rfl) (by rfl) (World.news_of_block (cs := #[.string { data := #[111, 112, 116, 105, 111, 110, 97, 108] }, .float .f64 (fl (X.boost i)), .iface 28 (.pointer (some ⟨(X.L i).sb, 0, none⟩))]) (t := 50) (fr := (0, 0)) (two_new _ _ _)) (by simp [Value.oneCell']) (by omega) hml (by omega) (by simp; omega) (wr.heap.size + 1 + 1) (by simp) ?_; intro g5 c5 w5 hown5 hgrow5 hat5 hlt5; have HO5 : Hid (w5.ownsRow w.heap.size 50 3 (.slice (some ⟨g5, 0, none⟩) (i + 1) c5) (i + 1) (cls X i ++ [.string { data := #[111, 112, 116, 105, 111, 110, 97, 108] }, .float .f64 (fl (X.boost i)), .iface 28 (.pointer (some ⟨(X.L i).sb, 0, none⟩))]) ∧ w.grownBy w5 none) := ⟨hown5, grown_rows (HO.out.2.trans ((World.grownBy_alloc _ _ none).trans (World.grownBy_alloc _ _ none))) hgrow5 (fun k e => (World.ownsRow.lt HOi.out k e).1)⟩; clear hown5 hgrow5 hat5 hlt5)
        go_roundw
        case measure => simp [intOf]; omega
        case rel =>
          refine ⟨i + 1, _, rfl, rfl, by omega, ?_, HO5.out.2⟩
          rw [hmin2, cls_succ]
          have e : cl3 X i = [.string { data := #[111, 112, 116, 105, 111, 110, 97, 108] }, .float .f64 (fl (X.boost i)), .iface 28 (.pointer (some ⟨(X.L i).sb, 0, none⟩))] := by unfold cl3 occ scv; rw [if_pos him]
          rw [e]; exact HO5.out.1
      · rw [if_neg him] at k0
        go_wp2
        go_roundw
        case measure => simp [intOf]; omega
        case rel =>
          refine ⟨i + 1, uv, rfl, rfl, by omega, ?_, HO.out.2.trans (World.grownBy_alloc _ _ none)⟩
          have e : min (i + 1) X.m = min i X.m := by omega
          rw [e]
          exact World.ownsRow.kept HO.out.1 (World.grownBy_alloc _ _ none) (Classical.em _)
    · have hii : ¬ (i : Int) < (X.N : Int) := by omega
      obtain rfl : i = X.N := by omega
      have hm0 := HT.out.1.m0
      have hmN := HT.out.1.mN
      have hm2 := HT.out.1.m2
      have hminE : min X.N X.m = X.m := by omega
      have ho := HO.out.1
      rw [hminE] at ho
      obtain ⟨ob, oc, e, _, _⟩ := World.ownsRow.form ho hm0
      subst e
      have HOe : Hid (wr.ownsRow w.heap.size 50 3 (.slice (some ⟨ob, 0, none⟩) X.m oc) X.m (cls X X.m) ∧ w.grownBy wr none) := ⟨ho, HO.out.2⟩
      have hmm : X.m = 1 ∨ X.m = 2 := by omega
      have HMM : Hid (X.m = 1 ∨ X.m = 2) := hmm
      have hq4 : (X.m : Int) / 4 = 0 := by omega
      clear ho hminE HO hmm hm0 hmN hm2
      go_wp2_with (go_at_call 14; refine (newWindow_any X.m X.cb g ob oc X.base HMM.out wr).mono ?_; rintro z w3 ⟨rfl, bb, rb, kb, hW3, hd3, hg3⟩; have HW3 : Hid (MadeW X.m X.cb g ob oc X.base wr.heap.size bb rb kb w3 ∧ (wr.heap.size < bb ∧ wr.heap.size < rb ∧ wr.heap.size < kb ∧ bb ≠ rb ∧ bb ≠ kb ∧ rb ≠ kb) ∧ wr.grownBy w3 none) := ⟨hW3, hd3, hg3⟩; have HAS : Hid (∃ X2 : Cx, Asm X X2 w w wr w3) := (by obtain ⟨X2, q1, q2, q3, q4, q5, q6, q7, q8, q9⟩ := assemble (w3 := w3) HT.out.1 HT.out.2.1 HT.out.2.2.1 HOe.out.1 HOe.out.2 hW3 hd3 hg3 HT.out.2.2.2.2.2.1 HT.out.2.2.2.2.2.2.1 HT.out.2.2.2.2.2.2.2.1 HT.out.2.2.2.2.2.2.2.2.1 HT.out.2.2.2.2.2.2.2.2.2.1 HT.out.2.2.2.2.2.2.2.2.2.2; exact ⟨X2, q1, q2.symm, q3, q4, q5, q6, q7, q9, HT.out.2.2.2.1.trans (HOe.out.2.trans hg3)⟩); obtain ⟨X2, hA⟩ := HAS.out; have HA : Hid (Asm X X2 w w wr w3) := hA; have x4 : w3.cell? ⟨wr.heap.size, 4, none⟩ = some (.int .i64 0) := (by rw [hA.wb]; have := hA.ready.win.w4; rw [hA.lo] at this; exact this); have f4 : w3.frozen? ⟨wr.heap.size, 4, none⟩ = false := (by rw [hA.wb]; exact hA.ready.win.fw 4); clear hA HAS hW3 hd3 hg3 HW3)
      rw [HA.out.wb] at x4 f4 ⊢
      have HWs : Hid (w.heap.size ≤ w.heap.size) := HT.out.2.2.2.1.size
      clear HT HOe HMM hq4 g0
      go_loopg [65] (X2.n + 128) (fun k _ wy => SegR X2 w k wy)
      case atStart => exact HA.out.start HWs.out
      case round =>
        clear x4 f4
        obtain ⟨a, b, lv, v, h, B, hak, hR⟩ := hrel
        have HR : Hid (Ready (X2.at a b) lv v h (offd X2 (min a X2.n)).length B wr ∧ Fam X2 (min a X2.n) wr ∧ Kept X2.limit (offd X2 (min a X2.n)) h ∧ Small h ∧ Under X2 B ∧ (∀ lb, lv.ownBlock = some lb → LbOk X2 lb B ∧ w.heap.size ≤ lb) ∧ (lv = .slice none 0 0 → v = .slice none 0 0) ∧ Frm w.heap.size (Wr X2) w wr ∧ w.heap.size ≤ B) := hR
        clear hR
        have x4 : wr.cell? ⟨X2.wb, 4, none⟩ = some (.int .i64 (a : Int)) := HR.out.1.win.w4
        have x5 : wr.cell? ⟨X2.wb, 5, none⟩ = some (.int .i64 (b : Int)) := HR.out.1.win.w5
        have f4 : wr.frozen? ⟨X2.wb, 4, none⟩ = false := HR.out.1.win.fw 4
        have f5 : wr.frozen? ⟨X2.wb, 5, none⟩ = false := HR.out.1.win.fw 5
        have hXn : Hid (X2.n = X.n) := HA.out.eqn
        have hn1 := HA.out.good.n1
        rw [hXn.out] at hak hn1
        by_cases han : a < X.n
        · have hai : (a : Int) < (X.n : Int) := by omega
          obtain ⟨hi, hhi⟩ : ∃ hi : Nat, (if (a : Int) + 128 < (X.n : Int) then (a : Int) + 128 else (X.n : Int)) = (hi : Int) := by
            split
            · exact ⟨a + 128, by omega⟩
            · exact ⟨X.n, rfl⟩
          have HHI : Hid (hi = min X.n (a + 128)) := (by
            show hi = min X.n (a + 128)
            split at hhi <;> omega)
          have HGe : Hid (w.heap.size ≤ X2.wb ∧ w.heap.size ≤ X2.bb ∧ w.heap.size ≤ X2.rb ∧ w.heap.size ≤ X2.kb) := (by
            have h1 := HA.out.ge
            have h2 := HWs.out
            exact ⟨by omega, by omega, by omega, by omega⟩)
          go_wp2_with (go_at_call 15; refine (win_call HA.out.good HR.out (by rw [hXn.out]; exact han) (by rw [hXn.out]; exact HHI.out) HGe.out).mono ?_; rintro z w5 ⟨rfl, hE5⟩; have HE5 : Hid (SegE X2 w a hi w5) := hE5; have y4 : w5.cell? ⟨X2.wb, 4, none⟩ = some (.int .i64 (a : Int)) := (by obtain ⟨_, _, _, _, r, _⟩ := hE5; exact r.win.w4); have y4f : w5.frozen? ⟨X2.wb, 4, none⟩ = false := (by obtain ⟨_, _, _, _, r, _⟩ := hE5; exact r.win.fw 4); clear hE5)
          go_roundg (X2.n + 128 - (a + 128))
          case measure => rw [hXn.out]; omega
          case rel =>
            exact HE5.out.next HA.out.good (by rw [hXn.out]; exact han) (by rw [hXn.out]; exact HHI.out) (by rw [hXn.out]; omega) HGe.out.1
        · have hai : ¬ (a : Int) < (X.n : Int) := by omega
          go_wp2
          go_end0
          have hmin : min a X2.n = X.n := by rw [hXn.out]; omega
          have hq := HR.out
          rw [hmin] at hq
          obtain ⟨r, f, k, sm, U, L, nl, F, hB⟩ := hq
          have eo : offd X2 X.n = offd X X.n := offd_like (HA.out.eq.1) (HA.out.eq.2.1) (HA.out.eq.2.2.1) (HA.out.eq.2.2.2.1) (HA.out.eq.2.2.2.2.1) (HA.out.eq.2.2.2.2.2.1) (HA.out.eq.2.2.2.2.2.2.1) _
          rw [eo] at r k
          have c := r.col
          have ecb : X2.cb = X.cb := HA.out.eq.2.2.2.2.2.2.2.1
          have eli : X2.limit = X.limit := HA.out.eq.2.2.2.2.2.2.2.2.1
          have eL : X2.L = X.L := HA.out.eq.2.2.1
          have eN : X2.N = X.N := HA.out.eq.2.1
          have c' : Coll X2.cb X2.limit v h (offd X X.n).length B wr := c
          rw [ecb, eli] at c'
          rw [eli] at k
          refine ⟨rfl, v, h, ⟨B, c'⟩, k, sm, F.mono (Nat.le_refl _) (fun q e => ?_)⟩
          rcases e with e | ⟨u, hu, e⟩
          · exact Or.inl (by rw [← ecb]; exact e)
          · exact Or.inr ⟨u, by rw [← eN]; exact hu, by rw [← eL]; exact e⟩
end Go.Proofs.Ybulkchng
