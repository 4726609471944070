/-
  Whole numbers as float64: what comparisons, sums and products of them give.
-/
import Derived.Test.YbulkchngRows
import Derived.WalkKit
import Derived.WalkSpells
import Derived.Below
import Derived.Laws.FloatArith
import Derived.KernelRfl
namespace Go.Proofs.Ybulkchng
open Go.RowKit

/-- The word of the whole number s. -/
def fl (s : Nat) : Nat := floatOfInt .f64 (s : Int)
theorem fl_eq (s : Nat) : fl s = Ieee.double.nearest false s 0 := by
  show Ieee.double.nearest (decide ((s : Int) < 0)) (s : Int).natAbs 0 = _
  rw [decide_eq_false (by omega), Int.natAbs_natCast]

/-- How far a number's digits are shifted. -/
def sh (s : Nat) : Nat := 52 - s.log2

theorem log2_mul (s k : Nat) (hs : 0 < s) : (s * 2 ^ k).log2 = s.log2 + k := by
  have h0 : s * 2 ^ k ≠ 0 := Nat.pos_iff_ne_zero.1 (Nat.mul_pos hs (Nat.two_pow_pos k))
  refine (Nat.log2_eq_iff h0).2 ⟨?_, ?_⟩
  · rw [Nat.pow_add]; exact Nat.mul_le_mul_right _ (Nat.log2_self_le (by omega))
  · have := @Nat.lt_log2_self s
    rw [show s.log2 + k + 1 = (s.log2 + 1) + k by omega, Nat.pow_add]
    exact Nat.mul_lt_mul_of_pos_right this (Nat.two_pow_pos k)

theorem log2_le (s : Nat) (hs : s < 2 ^ 53) : s.log2 ≤ 52 := by
  by_cases h0 : s = 0
  · subst h0; simp
  · have := (Nat.log2_lt h0).2 hs; omega

theorem double_least : Ieee.double.leastPlace = -1074 := by kernel_rfl
theorem double_binade : Ieee.double.binade = 4503599627370496 := by kernel_rfl
theorem double_inf : Ieee.double.infRung = 9218868437227405312 := by kernel_rfl
theorem double_sign : Ieee.double.signWeight = 9223372036854775808 := by kernel_rfl
theorem double_frac : Ieee.double.fractionBits = 52 := rfl

/-- The rung of s. -/
def rung (s : Nat) : Nat := (1074 - sh s) * 4503599627370496 + s * 2 ^ sh s

theorem cut_zero (n : Nat) : Ieee.Toward.even.cut false n 0 = n := by
  unfold Ieee.Toward.cut
  simp
  omega
theorem cut_exact (n q d : Nat) (hd : d ≤ n.log2 + 2) (hn : n = q * 2 ^ d) : Ieee.Toward.even.cut false n d = q := by
  unfold Ieee.Toward.cut
  have hp := Nat.two_pow_pos d
  have e1 : 1 <<< min d (n.log2 + 2) = 2 ^ d := by rw [Nat.min_eq_left hd, Nat.one_shiftLeft]
  have e2 : n / 2 ^ d = q := by rw [hn]; exact Nat.mul_div_cancel _ hp
  have e3 : n % 2 ^ d = 0 := by rw [hn]; exact Nat.mul_mod_left _ _
  simp only [e1, e2, e3]
  simp

theorem pow_sh (s : Nat) (hs : 0 < s) (h : s < 2 ^ 53) : 4503599627370496 ≤ s * 2 ^ sh s ∧ s * 2 ^ sh s < 9007199254740992 := by
  have hl := log2_le s h
  have h1 : 2 ^ s.log2 ≤ s := Nat.log2_self_le (by omega)
  have h2 : s < 2 ^ (s.log2 + 1) := Nat.lt_log2_self
  have e1 : 2 ^ s.log2 * 2 ^ sh s = 4503599627370496 := by rw [← Nat.pow_add, show s.log2 + sh s = 52 by unfold sh; omega]
  have e2 : 2 ^ (s.log2 + 1) * 2 ^ sh s = 9007199254740992 := by rw [← Nat.pow_add, show s.log2 + 1 + sh s = 53 by unfold sh; omega]
  rw [← e1, ← e2]
  exact ⟨Nat.mul_le_mul_right _ h1, Nat.mul_lt_mul_of_pos_right h2 (Nat.two_pow_pos _)⟩

theorem rung_lt (s : Nat) (hs : 0 < s) (h : s < 2 ^ 53) : rung s < 9218868437227405312 := by
  have := pow_sh s hs h
  unfold rung
  have : (1074 - sh s) * 4503599627370496 ≤ 1074 * 4503599627370496 := Nat.mul_le_mul_right _ (by omega)
  omega

theorem word_false (r : Nat) : Ieee.double.word false r = r := rfl
/-- s, however it is shifted. -/
theorem nearest_exact (s k : Nat) (hs : 0 < s) (h : s < 2 ^ 53) : Ieee.double.nearest false (s * 2 ^ k) (-(k : Int)) = rung s := by
  have hm : ¬ s * 2 ^ k = 0 := Nat.pos_iff_ne_zero.1 (Nat.mul_pos hs (Nat.two_pow_pos k))
  have hl := log2_le s h
  unfold Ieee.Format.nearest
  rw [if_neg hm]
  have el : max (-(k : Int) + ((s * 2 ^ k).log2 : Nat) - (Ieee.double.fractionBits : Nat)) Ieee.double.leastPlace = -(sh s : Int) := by
    rw [log2_mul s k hs, double_least, double_frac]; unfold sh; omega
  simp only [el]
  have ek : Ieee.Toward.even.cut false ((s * 2 ^ k) <<< (-(k : Int) - -(sh s : Int)).toNat) (-(sh s : Int) - -(k : Int)).toNat = s * 2 ^ sh s := by
    by_cases hk : k ≤ sh s
    · rw [show (-(sh s : Int) - -(k : Int)).toNat = 0 by omega, cut_zero, Nat.shiftLeft_eq, Nat.mul_assoc, ← Nat.pow_add]
      congr 2; omega
    · have hd : (-(sh s : Int) - -(k : Int)).toNat = k - sh s := by omega
      rw [show (-(k : Int) - -(sh s : Int)).toNat = 0 by omega, Nat.shiftLeft_zero, hd]
      refine cut_exact _ _ _ ?_ ?_
      · rw [log2_mul s k hs]; omega
      · rw [Nat.mul_assoc, ← Nat.pow_add]; congr 2; omega
  rw [ek, double_least, double_binade, double_inf, show (-(sh s : Int) - -1074).toNat = 1074 - sh s by unfold sh; omega, word_false]
  have hr := rung_lt s hs h
  unfold rung at hr ⊢
  exact Nat.min_eq_left (Nat.le_of_lt hr)

theorem fl_rung (s : Nat) (hs : 0 < s) (h : s < 2 ^ 53) : fl s = rung s := by
  rw [fl_eq]; have := nearest_exact s 0 hs h; simpa using this
theorem fl_zero : fl 0 = 0 := by kernel_rfl

theorem read_zero : Ieee.double.read (fl 0) = .number false 0 (-1074) := by kernel_rfl
theorem read_fl (s : Nat) (hs : 0 < s) (h : s < 2 ^ 53) : Ieee.double.read (fl s) = .number false (s * 2 ^ sh s) (-(sh s : Int)) := by
  rw [fl_rung s hs h]
  have hb := pow_sh s hs h
  have hr := rung_lt s hs h
  have hsh : sh s ≤ 52 := by unfold sh; omega
  unfold Ieee.Format.read
  rw [double_sign, double_binade, double_inf, double_least]
  have e1 : rung s % 9223372036854775808 = rung s := Nat.mod_eq_of_lt (by omega)
  have e2 : rung s / 9223372036854775808 = 0 := Nat.div_eq_of_lt (by omega)
  have e3 : rung s / 4503599627370496 = 1074 - sh s + 1 := by unfold rung; omega
  have e4 : rung s % 4503599627370496 = s * 2 ^ sh s - 4503599627370496 := by unfold rung; omega
  have e5 : ¬ rung s < 4503599627370496 := by unfold rung; omega
  simp only [e1, e2, e3, e4]
  rw [if_neg e5, if_pos hr]
  have e6 : 4503599627370496 + (s * 2 ^ sh s - 4503599627370496) = s * 2 ^ sh s := by omega
  have e7 : (-1074 : Int) + ((1074 - sh s + 1 - 1 : Nat) : Int) = -(sh s : Int) := by omega
  rw [e6, e7]
  rfl

theorem zero_pow (q r : Nat) : 0 * 2 ^ q = 0 * 2 ^ r := by simp
set_option exponentiation.threshold 1100 in
/-- With 1074 as a common place. -/
theorem read_any (s : Nat) (h : s < 2 ^ 53) : ∃ m t : Nat, Ieee.double.read (fl s) = .number false m (-(t : Int)) ∧ t ≤ 1074 ∧ m * 2 ^ (1074 - t) = s * 2 ^ 1074 := by
  by_cases h0 : s = 0
  · subst h0; exact ⟨0, 1074, read_zero, Nat.le_refl _, zero_pow _ _⟩
  · refine ⟨_, _, read_fl s (by omega) h, by unfold sh; omega, ?_⟩
    rw [Nat.mul_assoc, ← Nat.pow_add]
    congr 2
    unfold sh; omega

theorem compare_mul (a b c : Nat) (hc : 0 < c) : compare (a * c) (b * c) = compare a b := by
  rcases Nat.lt_trichotomy a b with h | h | h
  · rw [Nat.compare_eq_lt.2 h, Nat.compare_eq_lt.2 (Nat.mul_lt_mul_of_pos_right h hc)]
  · subst h; simp
  · rw [Nat.compare_eq_gt.2 h, Nat.compare_eq_gt.2 (Nat.mul_lt_mul_of_pos_right h hc)]

theorem compare_cast (a b : Nat) : compare (a : Int) (b : Int) = compare a b := by
  rcases Nat.lt_trichotomy a b with h | h | h
  · rw [Nat.compare_eq_lt.2 h]; exact Int.compare_eq_lt.2 (by omega)
  · subst h; simp
  · rw [Nat.compare_eq_gt.2 h]; exact Int.compare_eq_gt.2 (by omega)

/-- Two of them stand to each other as the numbers do. -/
theorem order_fl (a b : Nat) (ha : a < 2 ^ 53) (hb : b < 2 ^ 53) : FloatKind.f64.format.order (fl a) (fl b) = some (compare a b) := by
  show Ieee.double.order (fl a) (fl b) = _
  obtain ⟨m, i, hm, hi, em⟩ := read_any a ha
  obtain ⟨n, j, hn, hj, en⟩ := read_any b hb
  unfold Ieee.Format.order
  rw [hm, hn]
  simp only [Ieee.Datum.order, Ieee.signed, Bool.false_eq_true, if_false]
  congr 1
  rw [compare_cast]
  have e1 : (m <<< (-(i : Int) - min (-(i : Int)) (-(j : Int))).toNat) * 2 ^ (1074 - max i j) = a * 2 ^ 1074 := by
    rw [← em, Nat.shiftLeft_eq, Nat.mul_assoc, ← Nat.pow_add]
    congr 2; omega
  have e2 : (n <<< (-(j : Int) - min (-(i : Int)) (-(j : Int))).toNat) * 2 ^ (1074 - max i j) = b * 2 ^ 1074 := by
    rw [← en, Nat.shiftLeft_eq, Nat.mul_assoc, ← Nat.pow_add]
    congr 2; omega
  rw [← compare_mul _ _ (2 ^ (1074 - max i j)) (Nat.two_pow_pos _), e1, e2]
  generalize hq : (1074 : Nat) = q
  exact compare_mul _ _ _ (Nat.two_pow_pos q)

theorem lss_fl (a b : Nat) (ha : a < 2 ^ 53) (hb : b < 2 ^ 53) : (FloatKind.f64.format.order (fl a) (fl b) == some .lt) = decide (a < b) := by
  rw [order_fl a b ha hb]
  rcases Nat.lt_trichotomy a b with h | h | h
  · rw [Nat.compare_eq_lt.2 h]; simp [h]
  · subst h; simp
  · rw [Nat.compare_eq_gt.2 h]; simp; omega
theorem gtr_fl (a b : Nat) (ha : a < 2 ^ 53) (hb : b < 2 ^ 53) : (FloatKind.f64.format.order (fl a) (fl b) == some .gt) = decide (b < a) := by
  rw [order_fl a b ha hb]
  rcases Nat.lt_trichotomy a b with h | h | h
  · rw [Nat.compare_eq_lt.2 h]; simp; omega
  · subst h; simp
  · rw [Nat.compare_eq_gt.2 h]; simp [h]
theorem eql_fl (a b : Nat) (ha : a < 2 ^ 53) (hb : b < 2 ^ 53) : (FloatKind.f64.format.order (fl a) (fl b) == some .eq) = decide (a = b) := by
  rw [order_fl a b ha hb]
  rcases Nat.lt_trichotomy a b with h | h | h
  · rw [Nat.compare_eq_lt.2 h]; simp; omega
  · subst h; simp
  · rw [Nat.compare_eq_gt.2 h]; simp; omega
theorem neq_fl (a b : Nat) (ha : a < 2 ^ 53) (hb : b < 2 ^ 53) : (FloatKind.f64.format.order (fl a) (fl b) != some .eq) = decide (a ≠ b) := by
  have := eql_fl a b ha hb
  rw [bne, this]; simp

/-! ### Sums and products -/
theorem mul_fl (a b : Nat) (ha : 0 < a) (hb : 0 < b) (hab : a * b < 2 ^ 53) : floatBits .mul .f64 (fl a) (fl b) = some (fl (a * b)) := by
  have ha' : a < 2 ^ 53 := Nat.lt_of_le_of_lt (Nat.le_mul_of_pos_right a hb) hab
  have hb' : b < 2 ^ 53 := Nat.lt_of_le_of_lt (Nat.le_mul_of_pos_left b ha) hab
  show Ieee.double.mul (fl a) (fl b) = _
  unfold Ieee.Format.mul
  rw [read_fl a ha ha', read_fl b hb hb']
  simp only [Ieee.Datum.product, Option.map_some]
  congr 1
  show Ieee.double.nearest (false ^^ false) _ _ = _
  rw [fl_rung _ (Nat.mul_pos ha hb) hab, ← nearest_exact (a * b) (sh a + sh b) (Nat.mul_pos ha hb) hab]
  congr 1
  · rw [Nat.pow_add]; simp [Nat.mul_assoc, Nat.mul_left_comm]
  · omega

theorem add_fl (a b : Nat) (hb : 0 < b) (hab : a + b < 2 ^ 53) : floatBits .add .f64 (fl a) (fl b) = some (fl (a + b)) := by
  show Ieee.double.add (fl a) (fl b) = _
  obtain ⟨m, i, hm, hi, em⟩ := read_any a (by omega)
  obtain ⟨n, j, hn, hj, en⟩ := read_any b (by omega)
  unfold Ieee.Format.add
  rw [hm, hn]
  have e1 : m <<< (-(i : Int) - min (-(i : Int)) (-(j : Int))).toNat * 2 ^ (1074 - max i j) = a * 2 ^ max i j * 2 ^ (1074 - max i j) := by
    rw [Nat.mul_assoc a, ← Nat.pow_add, show max i j + (1074 - max i j) = 1074 by omega, ← em, Nat.shiftLeft_eq, Nat.mul_assoc, ← Nat.pow_add]
    congr 2; omega
  have e2 : n <<< (-(j : Int) - min (-(i : Int)) (-(j : Int))).toNat * 2 ^ (1074 - max i j) = b * 2 ^ max i j * 2 ^ (1074 - max i j) := by
    rw [Nat.mul_assoc b, ← Nat.pow_add, show max i j + (1074 - max i j) = 1074 by omega, ← en, Nat.shiftLeft_eq, Nat.mul_assoc, ← Nat.pow_add]
    congr 2; omega
  have f1 := Nat.eq_of_mul_eq_mul_right (Nat.two_pow_pos _) e1
  have f2 := Nat.eq_of_mul_eq_mul_right (Nat.two_pow_pos _) e2
  simp only [Ieee.Datum.sum, Ieee.signed, Bool.false_eq_true, if_false, f1, f2, Option.map_some]
  congr 1
  have hp : 0 < (a + b) * 2 ^ max i j := Nat.mul_pos (by omega) (Nat.two_pow_pos _)
  have et : ((a * 2 ^ max i j : Nat) : Int) + ((b * 2 ^ max i j : Nat) : Int) = (((a + b) * 2 ^ max i j : Nat) : Int) := by rw [← Int.natCast_add, Nat.add_mul]
  rw [et, if_neg (by omega), Int.natAbs_natCast, decide_eq_false (by omega), show min (-(i : Int)) (-(j : Int)) = -((max i j : Nat) : Int) by omega]
  show Ieee.double.nearest false _ _ = _
  rw [fl_rung _ (by omega) hab]
  exact nearest_exact (a + b) (max i j) (by omega) hab
end Go.Proofs.Ybulkchng
