/-
  zzs4179afind; zzs4179atop of nothing.
-/
import Derived.Test.YbulkchngSeg2
namespace Go.Proofs.Ybulkchng
open Go.RowKit Go.Sort
attribute [local go_sem] run_store_float

/-- The score of d in the list, 0 if it is not there. -/
def scoreIn (l : List (Nat × Nat)) (d : Nat) : Nat := if hasB l.length (Dl l) d = true then Sl l (rk l.length (Dl l) d) else 0

theorem has_of {l : List (Nat × Nat)} (hu : Up l.length (Dl l)) {i d : Nat} (hi : i < l.length) (e : Dl l i = d) : rk l.length (Dl l) d = i ∧ hasB l.length (Dl l) d = true := by
  have hr : rk l.length (Dl l) d = i := rk_eq hu (by omega) (fun j hj => by have := hu j i hj hi; omega) (Or.inr (by omega))
  refine ⟨hr, ?_⟩
  unfold hasB docAt
  rw [hr, if_pos hi, e]; simp
theorem has_not {l : List (Nat × Nat)} {d : Nat} (hd : d < 100000) (h : ∀ j, j < l.length → Dl l j ≠ d) : hasB l.length (Dl l) d = false := by
  cases hh : hasB l.length (Dl l) d with
  | false => rfl
  | true => have := hasB_lt hd hh; exact absurd this.2 (h _ this.1)

set_option maxHeartbeats 1000000 in
set_option maxRecDepth 100000 in
theorem find_any (da fa : Option Addr) (db fb dc fc : Nat) (l : List (Nat × Nat)) (d : Nat) (w : World) (hu : Up l.length (Dl l)) (hd : d < 100000) (hl : l.length ≤ 1024) (h1 : 0 < l.length → da = some ⟨db, 0, none⟩ ∧ fa = some ⟨fb, 0, none⟩)
    (h2 : ∀ i, i < l.length → w.cell? ⟨db, i, none⟩ = some (.int .i64 (Dl l i : Int))) (h3 : ∀ i, i < l.length → w.cell? ⟨fb, i, none⟩ = some (.float .f64 (fl (Sl l i)))) :
    Calls Yba.prog 10 #[.slice da l.length dc, .slice fa l.length fc, .int .i64 d] w fun e w' => e = .returned (.tuple #[.float .f64 (fl (scoreIn l d)), .bool (hasB l.length (Dl l) d)]) ∧ w = w' := by
  have HH : Hid (Up l.length (Dl l) ∧ (0 < l.length → da = some ⟨db, 0, none⟩ ∧ fa = some ⟨fb, 0, none⟩) ∧ (∀ i, i < l.length → w.cell? ⟨db, i, none⟩ = some (.int .i64 (Dl l i : Int))) ∧ ∀ i, i < l.length → w.cell? ⟨fb, i, none⟩ = some (.float .f64 (fl (Sl l i)))) := ⟨hu, h1, h2, h3⟩
  clear hu h1 h2 h3
  go_enter Yba.func10, Yba.ntmps10
  go_wp2
  go_loopw [12] (fun vi wr => ∃ i : Nat, vi = .int .i64 i ∧ i ≤ l.length ∧ (∀ j, j < i → Dl l j ≠ d) ∧ w = wr) (fun vi _ => l.length - (intOf vi).toNat)
  case atStart => exact ⟨0, rfl, Nat.zero_le _, fun j hj => by omega, rfl⟩
  case round =>
    obtain ⟨i, rfl, hi, hno, rfl⟩ := hrel
    have HN : Hid (∀ j, j < i → Dl l j ≠ d) := hno
    clear hno
    by_cases hil : i < l.length
    · have hii : (i : Int) < (l.length : Int) := by omega
      have hda := (HH.out.2.1 (by omega)).1
      have hfa := (HH.out.2.1 (by omega)).2
      have c0 := HH.out.2.2.1 i hil
      have c1 := HH.out.2.2.2 i hil
      rw [hda, hfa]
      by_cases he : Dl l i = d
      · have hed : ((Dl l i : Int) == (d : Int)) = true := by simp [he]
        have hq := has_of HH.out.1 hil he
        have HQ : Hid (rk l.length (Dl l) d = i ∧ hasB l.length (Dl l) d = true) := hq
        clear hq he
        go_wp2
        refine bodyPost_ret (v := .tuple #[.float .f64 (fl (Sl l i)), .bool true]) (by simp [results, Yba.results10, go_sem]) rfl ?_
        refine ⟨?_, rfl⟩
        rw [HQ.out.2]
        unfold scoreIn
        rw [if_pos HQ.out.2, HQ.out.1]
      · have hed : ((Dl l i : Int) == (d : Int)) = false := by simp; omega
        have HE : Hid (Dl l i ≠ d) := he
        clear he
        go_wp2
        go_roundw
        case measure => simp [intOf]; omega
        case rel =>
          refine ⟨i + 1, rfl, by omega, fun j hj => ?_, by first | rfl | trivial⟩
          by_cases e : j = i
          · subst e; exact HE.out
          · exact HN.out j (by omega)
    · have hii : ¬ (i : Int) < (l.length : Int) := by omega
      have hq := has_not hd (fun j hj => HN.out j (by omega))
      have HQ : Hid (hasB l.length (Dl l) d = false) := hq
      clear hq
      go_wp2
      refine bodyPost_ret (v := .tuple #[.float .f64 0, .bool false]) (by simp [results, Yba.results10, go_sem]) rfl ?_
      refine ⟨?_, rfl⟩
      rw [HQ.out]
      unfold scoreIn
      rw [if_neg (by rw [HQ.out]; simp), fl_zero]

set_option maxRecDepth 100000 in
theorem top_nil (limit : Nat) (w : World) : Calls Yba.prog 8 #[.slice none 0 0, .int .i64 limit] w fun e w' => e = .returned (.slice none 0 0) ∧ w.grownBy w' none := by
  have h1 : ¬ (limit : Int) < 0 := by omega
  go_enter Yba.func8, Yba.ntmps8
  go_wp2_with (go_at_call 11; refine (sort_nil _ w).mono ?_; rintro z w1 ⟨rfl, hg1⟩)
  go_ret
  exact ⟨rfl, hg1⟩
end Go.Proofs.Ybulkchng
