/-
  zzs4179atop, slices.Clone, zzs4179asame.
-/
import Derived.Test.YbulkchngBuild
import Derived.Test.YbulkchngOff
namespace Go.Proofs.Ybulkchng
open Go.RowKit Go.Sort
attribute [local go_sem] run_store_float

set_option maxRecDepth 100000 in
theorem insert_nil (fv : Value) (w : World) : Calls Yba.prog 22 #[.slice none 0 0, .int .i64 0, .int .i64 0, fv] w fun e w' => e = .returned (.tuple #[]) ∧ w.grownBy w' none := by
  go_enter Yba.func22, Yba.ntmps22
  go_wp2
  go_loopw [8] (fun vi wr => vi = .int .i64 1 ∧ w = wr) (fun _ _ => 0)
  case atStart => exact ⟨rfl, rfl⟩
  case round =>
    obtain ⟨rfl, rfl⟩ := hrel
    go_wp2
    go_end0
    exact ⟨rfl, grown_refl _ _⟩

set_option maxRecDepth 100000 in
theorem stable_nil (fv : Value) (w : World) : Calls Yba.prog 18 #[.slice none 0 0, .int .i64 0, fv] w fun e w' => e = .returned (.tuple #[]) ∧ w.grownBy w' none := by
  go_enter Yba.func18, Yba.ntmps18
  go_wp2
  go_loopw [7, 8] (fun va vb wr => va = .int .i64 0 ∧ vb = .int .i64 20 ∧ w = wr) (fun _ _ _ => 0)
  case atStart => exact ⟨rfl, rfl, rfl⟩
  case round =>
    obtain ⟨rfl, rfl, rfl⟩ := hrel
    go_wp2_with (go_at_call 22; refine (insert_nil fv w).mono ?_; rintro z w1 ⟨rfl, hg1⟩)
    go_loopw [6, 7, 8] (fun vc va vb wr => vc = .int .i64 20 ∧ w1 = wr) (fun _ _ _ _ => 0)
    case atStart => exact ⟨rfl, rfl⟩
    case round =>
      obtain ⟨rfl, rfl⟩ := hrel
      go_wp2
      go_end0
      exact ⟨rfl, hg1⟩

set_option maxRecDepth 100000 in
theorem sort_nil (fv : Value) (w : World) : Calls Yba.prog 11 #[.slice none 0 0, fv] w fun e w' => e = .returned (.tuple #[]) ∧ w.grownBy w' none := by
  go_enter Yba.func11, Yba.ntmps11
  go_wp2_with (go_at_call 18; refine (stable_nil fv w).mono ?_; rintro z w1 ⟨rfl, hg1⟩)
  go_end0
  exact ⟨rfl, hg1⟩

set_option maxRecDepth 100000 in
/-- The best, at most limit of them. -/
theorem top_any (b cap n limit : Nat) (d : Array Mt) (w : World) (hn : d.size = n) (hR : RowM b d w) (hsm : ∀ t, t < d.size → d[t]!.2 < 1024) (hsz : n ≤ 1024) (hcap : n ≤ cap) (hl : limit ≤ 12) :
    Calls Yba.prog 8 #[.slice (some ⟨b, 0, none⟩) n cap, .int .i64 limit] w fun e w' => ∃ A cap', e = .returned (.slice (some ⟨b, 0, none⟩) (min n limit) cap') ∧ PermIn 0 n d A ∧ SortedIn ltTop 0 n A ∧ RowM b A w' ∧ w.grownBy w' (some b) := by
  have HH : Hid (d.size = n ∧ RowM b d w ∧ ∀ t, t < d.size → d[t]!.2 < 1024) := ⟨hn, hR, hsm⟩
  clear hn hR hsm
  by_cases hlt : limit < n
  · have h1 : (limit : Int) < (n : Int) := by omega
    have h2 : min n limit = limit := by omega
    have h3 : (limit : Int) ≤ (cap : Int) := by omega
    go_enter Yba.func8, Yba.ntmps8
    go_wp2_with (go_at_call 11; refine (sortStable cmps17 swoTop b cap n d w HH.out.1 HH.out.2.1 HH.out.2.2 hsz).mono ?_; rintro z w1 ⟨rfl, A, hP, hS, hR1, hG⟩)
    go_ret
    exact ⟨A, cap, by rw [h2]; rfl, hP, hS, hR1, hG⟩
  · have h1 : ¬ (limit : Int) < (n : Int) := by omega
    have h2 : min n limit = n := by omega
    go_enter Yba.func8, Yba.ntmps8
    go_wp2_with (go_at_call 11; refine (sortStable cmps17 swoTop b cap n d w HH.out.1 HH.out.2.1 HH.out.2.2 hsz).mono ?_; rintro z w1 ⟨rfl, A, hP, hS, hR1, hG⟩)
    go_ret
    exact ⟨A, cap, by rw [h2]; rfl, hP, hS, hR1, hG⟩

theorem own_new40 (w : World) : (w.alloc (.cells #[] 40)).ownsRow w.heap.size 40 2 (.slice (some ⟨w.heap.size, 0, none⟩) 0 0) 0 [] :=
  ⟨by simp, Or.inr ⟨w.heap.size, 0, #[], rfl, Nat.le_refl _, heap_alloc_new _ _, Nat.le_refl _, by unfold maxLen; omega, rfl, rfl⟩⟩
theorem own_cells40 {B g n cap : Nat} {h : Array Mt} {w : World} (o : OwnM B (.slice (some ⟨g, 0, none⟩) n cap) h w) : ∀ j u, (flat h.toList)[j]? = some u → w.cell? ⟨g, j, none⟩ = some u := fun j u hu => by
  rcases o.2 with ⟨q, _⟩ | ⟨g', cp, cur, q, r1, r2, r3, r4, r5, r6⟩
  · cases q
  · injection q with e1 e2 e3
    injection e1 with e1
    injection e1 with e1
    subst e1
    rw [cell_of_row _ _ j _ 40 (0, 0) r2]
    rw [← r6, List.getElem?_take] at hu
    split at hu
    · simpa using hu
    · cases hu

theorem eql_some (a : Addr) (n c : Nat) (w : World) : (binOp .eql 32 (.slice (some a) n c) (.slice none 0 0)).run Yba.prog w = .ok (.bool false) w := by kernel_rfl
theorem eql_none (w : World) : (binOp .eql 32 (.slice none 0 0) (.slice none 0 0)).run Yba.prog w = .ok (.bool true) w := by kernel_rfl

set_option maxRecDepth 100000 in
theorem clone_nil (w : World) : Calls Yba.prog 16 #[.slice none 0 0] w fun e w' => e = .returned (.slice none 0 0) ∧ w = w' := by
  have he := eql_none
  go_enter Yba.func16, Yba.ntmps16
  go_wp2
  go_ret
  exact ⟨rfl, rfl⟩

set_option maxRecDepth 100000 in
theorem clone_any (B g cap : Nat) (h : Array Mt) (w : World) (hO : OwnM B (.slice (some ⟨g, 0, none⟩) h.size cap) h w) (hs : h.size ≤ 12) :
    Calls Yba.prog 16 #[.slice (some ⟨g, 0, none⟩) h.size cap] w fun e w' => ∃ b c, e = .returned (.slice (some ⟨b, 0, none⟩) h.size c) ∧ OwnM w.heap.size (.slice (some ⟨b, 0, none⟩) h.size c) h w' ∧ w.grownBy w' none := by
  obtain ⟨i0, z0, hi0, hz0, hz1, hz2, hz3⟩ := info_parts40
  have HO : Hid (OwnM B (.slice (some ⟨g, 0, none⟩) h.size cap) h w) := hO
  clear hO
  have he := eql_some
  go_enter Yba.func16, Yba.ntmps16
  go_wp2_with (at_builtin; refine wpList_append_own _ rfl _ _ 32 rfl w.heap.size 40 i0 z0 2 16 Yba.underlying32 hi0 hz0 hz1 hz2 hz3 (by decide) _ 0 [] rfl (own_new40 w) ⟨g, 0, none⟩ h.size cap (flat h.toList) rfl ?c0 ?c1 (flat_one _) ?c3 ?c4 ?c5 ?_)
  case c0 => rw [flat_length]; simp
  case c1 =>
    intro j u hj
    have := own_cells40 HO.out j u hj
    have hadd : (⟨g, 0, none⟩ : Addr).add j = ⟨g, j, none⟩ := by unfold Addr.add; split <;> simp_all
    rw [hadd]
    exact (World.grownBy_alloc w _ none).cell this (by simp)
  case c3 => unfold maxLen; omega
  case c4 => omega
  case c5 => simp
  · intro v' w1 hown hgrow hnil
    rcases hown.2 with ⟨q, _⟩ | ⟨b, c, cur, q, _⟩
    · exact absurd q hnil
    · subst q
      have HX : Hid (OwnM w.heap.size (.slice (some ⟨b, 0, none⟩) h.size c) h w1 ∧ w.grownBy w1 none) := (by
        refine ⟨by simpa [OwnM] using hown, grown_rows (World.grownBy_alloc _ _ none) hgrow (fun k e => by injection e with e; subst e; exact Nat.le_refl _)⟩)
      clear hown hgrow hnil
      try simp only [Nat.zero_add]
      go_wp2
      go_ret
      exact ⟨b, c, rfl, HX.out.1, HX.out.2⟩

set_option maxHeartbeats 1600000 in
set_option maxRecDepth 100000 in
theorem same_any (cb limit : Nat) (v : Value) (h : Array Mt) (total B : Nat) (w : World) (c : Coll cb limit v h total B w) (hsz : h.size ≤ 12) (hs : Small h) (wa : Option Addr) (b cap : Nat) (A : Array Mt) (hwa : 0 < h.size → wa = some ⟨b, 0, none⟩ ∧ RowM b A w) (hk : h.size ≤ A.size)
    (heq : ∀ H, PermIn 0 h.size h H → SortedIn ltTop 0 h.size H → ∀ t, t < h.size → H[t]! = A[t]!) :
    Calls Yba.prog 7 #[.pointer (some ⟨cb, 0, none⟩), .slice wa h.size cap] w fun e w' => e = .returned (.bool true) ∧ w.grownBy w' none := by
  have c1 := c.c1
  have hgo := goes17
  rcases c.own.2 with ⟨e, h0⟩ | ⟨g, gc, cur, e, hr⟩
  · subst e
    have h0i : (h.size : Int) = 0 := by omega
    rw [h0]
    clear c
    go_enter Yba.func7, Yba.ntmps7
    go_wp2_with (first
      | (go_at_call 16; refine (clone_nil w).mono ?_; rintro z w1 ⟨rfl, rfl⟩)
      | (go_at_call 11; refine (sort_nil _ w).mono ?_; rintro z w2 ⟨rfl, hg2⟩))
    go_loopw [22] (fun vi wr => vi = .int .i64 0 ∧ w2 = wr) (fun _ _ => 0)
    case atStart => exact ⟨rfl, rfl⟩
    case round =>
      obtain ⟨rfl, rfl⟩ := hrel
      go_wp2
      go_ret
      exact ⟨rfl, hg2⟩
  · subst e
    have HO : Hid (OwnM B (.slice (some ⟨g, 0, none⟩) h.size gc) h w) := c.own
    have HW : Hid ((0 < h.size → wa = some ⟨b, 0, none⟩ ∧ RowM b A w) ∧ ∀ H, PermIn 0 h.size h H → SortedIn ltTop 0 h.size H → ∀ t, t < h.size → H[t]! = A[t]!) := ⟨hwa, heq⟩
    clear c hwa heq hr
    go_enter Yba.func7, Yba.ntmps7
    go_wp2_with (first
      | (go_at_call 16; refine (clone_any B g gc h w HO.out hsz).mono ?_; rintro z w1 ⟨b1, k1, rfl, hO1, hg1⟩; have HO1 : Hid (OwnM w.heap.size (.slice (some ⟨b1, 0, none⟩) h.size k1) h w1 ∧ w.grownBy w1 none) := ⟨hO1, hg1⟩; clear hO1 hg1)
      | (go_at_call 11; refine (sortStable cmps17 swoTop b1 k1 h.size h w1 rfl HO1.out.1.rowS.2 hs.wide (by omega)).mono ?_; rintro z w2 ⟨rfl, H, hP, hS, hR, hG⟩; have HX : Hid (PermIn 0 h.size h H ∧ SortedIn ltTop 0 h.size H ∧ RowM b1 H w2 ∧ w.grownBy w2 none ∧ w.heap.size ≤ b1) := ⟨hP, hS, hR, grown_rows HO1.out.2 hG (fun k e => by injection e with e; subst e; exact HO1.out.1.rowS.1), HO1.out.1.rowS.1⟩; clear hP hS hR hG))
    go_loopw [22] (fun vi wr => ∃ i q : Nat, vi = .int .i64 i ∧ i ≤ h.size ∧ w2.drewN q = wr) (fun vi _ => h.size - (intOf vi).toNat)
    case atStart => exact ⟨0, 0, rfl, Nat.zero_le _, rfl⟩
    case round =>
      obtain ⟨i, q, rfl, hi, rfl⟩ := hrel
      by_cases hih : i < h.size
      · have hii : (i : Int) < (h.size : Int) := by omega
        obtain ⟨x, hx⟩ : ∃ x, x = A[i]! := ⟨_, rfl⟩
        have hxe : H[i]! = x := by rw [hx]; exact HW.out.2 H HX.out.1 HX.out.2.1 i hih
        obtain ⟨rfl, hRA⟩ := HW.out.1 (by omega)
        have hRA2 := hRA.grown HX.out.2.2.2.1 (by simp)
        have hHs : H.size = h.size := HX.out.1.1
        have a0 := hRA2.c0 i (by omega)
        have a1 := hRA2.c1 i (by omega)
        have b0 := HX.out.2.2.1.c0 i (by omega)
        have b1' := HX.out.2.2.1.c1 i (by omega)
        rw [← hx] at a0 a1
        rw [hxe] at b0 b1'
        have hx2 : x.2 < 1000 := (by
          have := perm_all (p := fun y => y.2 < 1000) HX.out.1 rfl hs i hih
          rw [hxe] at this; exact this)
        have n1 := neq_fl x.2 x.2 (by omega) (by omega)
        simp at n1
        clear hRA hRA2 hx hxe
        go_wp2
        go_quiet (fail)
        go_wp2
        go_roundw
        case measure => simp [intOf]; omega
        case rel => exact ⟨i + 1, _, rfl, by omega, rfl⟩
      · have hii : ¬ (i : Int) < (h.size : Int) := by omega
        go_wp2
        go_ret
        exact ⟨rfl, HX.out.2.2.2.1.trans (grown_drewN _ _)⟩
end Go.Proofs.Ybulkchng
