/-
  A match as a value, and the three ways the program compares two of them.
-/
import Derived.Test.YbulkchngFl
namespace Go.Proofs.Ybulkchng
open Go.RowKit

/-- A match: a document and a whole score. -/
abbrev Mt := Int × Nat
def ev (m : Mt) : Value := .agg #[.int .i64 m.1, .float .f64 (fl m.2)]

theorem isNaN_int (x : Int) (w : World) : Calls Yba.prog 19 #[.int .i64 x] w fun e w' => e = .returned (.bool false) ∧ w = w' := by
  go_enter Yba.func19, Yba.ntmps19
  go_wp2
  go_ret
  exact ⟨rfl, rfl⟩

/-- cmp.Compare[int]. -/
def cmpI (x y : Int) : Int := if x < y then -1 else if y < x then 1 else 0
theorem compare_int (x y : Int) (w : World) : Calls Yba.prog 13 #[.int .i64 x, .int .i64 y] w fun e w' => e = .returned (.int .i64 (cmpI x y)) ∧ w = w' := by
  by_cases h1 : x < y
  · go_enter Yba.func13, Yba.ntmps13
    go_wp2_with (go_at_call 19; refine (isNaN_int _ _).mono ?_; rintro e w1 ⟨rfl, rfl⟩)
    go_ret
    exact ⟨by simp [cmpI, h1], rfl⟩
  · by_cases h2 : y < x
    · go_enter Yba.func13, Yba.ntmps13
      go_wp2_with (go_at_call 19; refine (isNaN_int _ _).mono ?_; rintro e w1 ⟨rfl, rfl⟩)
      go_ret
      exact ⟨by simp [cmpI, h1, h2], rfl⟩
    · go_enter Yba.func13, Yba.ntmps13
      go_wp2_with (go_at_call 19; refine (isNaN_int _ _).mono ?_; rintro e w1 ⟨rfl, rfl⟩)
      go_ret
      exact ⟨by unfold cmpI; rw [if_neg (by omega), if_neg (by omega)]; rfl, rfl⟩

/-- The order by document. -/
def ltDoc (x y : Mt) : Bool := decide (x.1 < y.1)
/-- The order of the best: score down, document up. -/
def ltTop (x y : Mt) : Bool := decide (y.2 < x.2) || (decide (x.2 = y.2) && decide (x.1 < y.1))

/-- A comparison's contract. -/
structure Cmps (F : Nat) (lt : Mt → Mt → Bool) : Prop where
  goes : ∀ (args : Array Value) (w : World), (callFunc F args).run Yba.prog w = .ok (.enter F args) w
  says : ∀ (x y : Mt) (w : World), x.2 < 1024 → y.2 < 1024 → Calls Yba.prog F #[ev x, ev y] w fun e w' => ∃ r : Int, e = .returned (.int .i64 r) ∧ decide (r < 0) = lt x y ∧ w.grownBy w' none

theorem goes12 (args : Array Value) (w : World) : (callFunc 12 args).run Yba.prog w = .ok (.enter 12 args) w := by kernel_rfl
theorem goes17 (args : Array Value) (w : World) : (callFunc 17 args).run Yba.prog w = .ok (.enter 17 args) w := by kernel_rfl

theorem cmps12 : Cmps 12 ltDoc := ⟨goes12, fun x y w hx hy => by
  unfold ev
  go_enter Yba.func12, Yba.ntmps12
  go_wp2_with (go_at_call 13; refine (compare_int _ _ _).mono ?_; rintro e w1 ⟨rfl, rfl⟩)
  go_ret
  exact ⟨_, rfl, by unfold cmpI ltDoc; split <;> (try split) <;> simp <;> omega, (World.grownBy_alloc _ _ none).trans (World.grownBy_alloc _ _ none)⟩⟩

theorem cmps17 : Cmps 17 ltTop := ⟨goes17, fun x y w hx hy => by
  unfold ev
  have n := neq_fl x.2 y.2 (by omega) (by omega)
  have g := gtr_fl x.2 y.2 (by omega) (by omega)
  have HG : w.grownBy ((w.alloc (.cells #[.int .i64 x.1, .float .f64 (fl x.2)] 40)).alloc (.cells #[.int .i64 y.1, .float .f64 (fl y.2)] 40)) none := (World.grownBy_alloc _ _ none).trans (World.grownBy_alloc _ _ none)
  by_cases h1 : x.2 = y.2
  · have n' : (FloatKind.f64.format.order (fl x.2) (fl y.2) != some .eq) = false := by rw [n]; simp [h1]
    have H1 : Hid (x.2 = y.2) := h1
    clear n g h1
    go_enter Yba.func17, Yba.ntmps17
    go_wp2_with (go_at_call 13; refine (compare_int _ _ _).mono ?_; rintro e w1 ⟨rfl, rfl⟩)
    go_ret
    exact ⟨_, rfl, by have h1 := H1.out; unfold cmpI ltTop; split <;> (try split) <;> simp <;> omega, HG⟩
  · have n' : (FloatKind.f64.format.order (fl x.2) (fl y.2) != some .eq) = true := by rw [n]; simp [h1]
    by_cases h2 : y.2 < x.2
    · have g' : (FloatKind.f64.format.order (fl x.2) (fl y.2) == some .gt) = true := by rw [g]; simp [h2]
      clear n g
      go_enter Yba.func17, Yba.ntmps17
      go_wp2
      go_ret
      exact ⟨_, rfl, by unfold ltTop; simp [h2], HG⟩
    · have g' : (FloatKind.f64.format.order (fl x.2) (fl y.2) == some .gt) = false := by rw [g]; simp; omega
      clear n g
      go_enter Yba.func17, Yba.ntmps17
      go_wp2
      go_ret
      exact ⟨_, rfl, by unfold ltTop; simp [h2, h1], HG⟩⟩
end Go.Proofs.Ybulkchng
