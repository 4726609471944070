/-
  grantwork.LawS4178APath, walked.
-/
import Derived.Test.YbulkchmsParts
namespace Go.Proofs.Ybulkchms
open Go.RowKit

theorem info25 : (Yba.prog.info? 25).map (fun i => (i.zero, i.size, i.bytes)) = some (some (.pointer none), 1, 8) := by kernel_rfl

/-- What the walk is told of its two arguments. -/
structure Told (bn on n : Nat) (ak : Option Addr) (bk ok kl : Nat) (nm : Nat → ByteArray) (ks kd : Nat → Int) (w : World) : Prop where
  names : ∀ j, j < n → w.cell? ⟨bn, on + j, none⟩ = some (.string (nm j))
  lt : bn < w.heap.size
  addr : 0 < kl → ak = some ⟨bk, ok, none⟩ ∧ bk < w.heap.size
  kinds : ∀ j, j < kl → w.cell? ⟨bk, ok + j, none⟩ = some (.int .u8 (ks j))
  bytes : ∀ j, 0 ≤ ks j ∧ ks j < 256
  some5 : ∀ j, j < kl → kd j = ks j % 5
  none5 : ∀ j, kl ≤ j → kd j = 0

set_option maxHeartbeats 3200000 in
set_option maxRecDepth 100000 in
theorem lawA_one (bn on n cn : Nat) (ak : Option Addr) (bk ok kl kc : Nat) (nm : Nat → ByteArray) (ks kd : Nat → Int) (w : World) (hn0 : 0 < n) (hn : n ≤ 1024)
    (HT : Told bn on n ak bk ok kl nm ks kd w) (hsys : kd (n - 1) = 4) :
    Calls Yba.prog 3 #[.slice (some ⟨bn, on, none⟩) n cn, .slice ak kl kc] w fun e w' => e = .returned (.bool true) ∧ Below w.heap.size w w' := by
  have hmk := run_make_row' (P := Yba.prog) 24 25 (.pointer none) 8 Yba.underlying24 info25 rfl .i64 .i64 n (by omega) (by omega)
  obtain ⟨j25, hj25⟩ : ∃ j, Yba.prog.info? 34 = some j := Option.isSome_iff_exists.1 (by kernel_rfl)
  have q25 : ∀ (w : World) (a : Addr), (binOp .neq 25 (.pointer (some a)) (.pointer (some a))).run Yba.prog w = .ok (.bool false) w := fun w a => neq_ptr_same w a Yba.underlying25 hj25
  have q22n : ∀ (w : World) (a : Option Addr) (n c n' c' : Nat), (binOp .neq 22 (.slice a n c) (.slice none n' c')).run Yba.prog w = .ok (.bool (!a.isNone)) w := fun w a n c n' c' => run_neq_slice_nil_any w _ _ a n c n' c' Yba.underlying22
  have q22e : ∀ (w : World) (a : Option Addr) (n c n' c' : Nat), (binOp .eql 22 (.slice a n c) (.slice none n' c')).run Yba.prog w = .ok (.bool a.isNone) w := fun w a n c n' c' => Lib.run_eql_slice_nil w _ _ a n c n' c' Yba.underlying22
  clear hj25
  have HS : Hid (kd (n - 1) = 4) := hsys
  clear hsys
  have hn1 : ((n : Int) == 0) = false := by simp; omega
  have hn2 : decide ((1024 : Int) < (n : Int)) = false := by simp; omega
  go_enter Yba.func3, Yba.ntmps3
  go_wp2_with fail
  have hB0 := Built.start w n kd nm (madeCells #[.pointer none] n) (by simp [madeCells])
  go_loopw [7, 8] (fun p i wr => ∃ k : Nat, k ≤ n ∧ i = .int .i64 k ∧ p = .pointer (par w.heap.size k) ∧ Built w n kd nm k wr) (fun _ i _ => n - (intOf i).toNat)
  case atStart => exact ⟨0, Nat.zero_le _, rfl, rfl, hB0⟩
  case round =>
    clear hB0
    obtain ⟨k, hk, rfl, rfl, hB⟩ := hrel
    by_cases hlt : k < n
    · obtain ⟨⟨x0, hx0⟩, hf0⟩ := hB.slot hlt
      have hsz := hB.size
      have hcn : wr.cell? ⟨bn, on + k, none⟩ = some (.string (nm k)) := (hB.below.cell (by exact HT.lt)).trans (HT.names k hlt)
      have hx1 : ∀ o, (wr.alloc o).cell? ⟨w.heap.size, k, none⟩ = some x0 := fun o => (World.grownBy_alloc wr o none).cell hx0 (by simp)
      have hf1 : ∀ o, (wr.alloc o).frozen? ⟨w.heap.size, k, none⟩ = false := fun o => (((Below.refl _ _).alloc (Nat.le_refl _) o : Below wr.heap.size wr _).frozen (World.block_lt_of_cell? wr _ hx0)).trans hf0
      have hR := hB.step' hlt
      by_cases hkk : k < kl
      · obtain ⟨rfl, hbk⟩ := HT.addr (by omega)
        have hck : wr.cell? ⟨bk, ok + k, none⟩ = some (.int .u8 (ks k)) := (hB.below.cell (by exact hbk)).trans (HT.kinds k hkk)
        have hk0 := (HT.bytes k).1
        have hk1 := (HT.bytes k).2
        rw [HT.some5 k hkk] at hR
        have HR : Hid (Built w n kd nm (k + 1) ((wr.alloc (.cells (objC (ks k % 5) (nm k) (par w.heap.size k)) 34)).setCell ⟨w.heap.size, k, none⟩ (.pointer (some ⟨w.heap.size + 1 + k, 0, none⟩)))) := hR
        clear hR hB
        go_wp2
        go_roundw
        case rel => exact ⟨k + 1, by omega, by go_num, by rw [par_succ], HR.out⟩
        case measure => simp [intOf]; omega
      · have hkk' : kl ≤ k := by omega
        rw [HT.none5 k hkk'] at hR
        have HR : Hid (Built w n kd nm (k + 1) ((wr.alloc (.cells (objC 0 (nm k) (par w.heap.size k)) 34)).setCell ⟨w.heap.size, k, none⟩ (.pointer (some ⟨w.heap.size + 1 + k, 0, none⟩)))) := hR
        clear hR hB
        go_wp2
        go_roundw
        case rel => exact ⟨k + 1, by omega, by go_num, by rw [par_succ], HR.out⟩
        case measure => simp [intOf]; omega
    · obtain rfl : n = k := by omega
      have hR := hB.ready
      clear hB hlt hk
      have hrow := hR.row (n - 1) (by omega)
      go_wp2_with fail
      refine (path_any hn (n - 1) (by omega) wr hR.objs).mono ?_
      rintro e w1 ⟨v, rfl, hg⟩
      have hR1 := hR.later hg.2.1
      clear hrow hR
      obtain rfl := hg.2.2 HS.out
      clear hg
      have hstn : st kd n = n := by
        obtain ⟨m, rfl⟩ : ∃ m, n = m + 1 := ⟨n - 1, by omega⟩
        exact (st_eq kd m).2 HS.out
      have HST2 : Hid (st kd n = n) := hstn
      have hstb : ((st kd n : Int) == (n : Int)) = true := by rw [hstn]; simp
      clear hstn
      go_wp2_with fail
      go_loop [12, 13] (fun s i => ∃ k : Nat, k ≤ n ∧ i = .int .i64 k ∧ s = .int .i64 (st kd k)) (fun _ i => n - (intOf i).toNat)
      case atStart => exact ⟨0, Nat.zero_le _, rfl, rfl⟩
      case round =>
        obtain ⟨k, hk, rfl, rfl⟩ := hrel
        by_cases hlt : k < n
        · have hrk := hR1.row k hlt
          have hkk := hR1.kind k hlt
          have hle := st_le kd k
          by_cases h4 : kd k = 4
          · have hb4 : (kd k == 4) = true := by simp [h4]
            have hst1 : st kd (k + 1) = k + 1 := by rw [st, if_pos h4]
            have HST : Hid (st kd (k + 1) = k + 1) := hst1
            clear h4 hst1
            go_wp2
            go_round
            case rel => exact ⟨k + 1, by omega, by go_num, by rw [HST.out]; go_num⟩
            case measure => simp [intOf]; omega
          · have hb4 : (kd k == 4) = false := by simp [h4]
            have hst1 : st kd (k + 1) = st kd k := by rw [st, if_neg h4]
            have HST : Hid (st kd (k + 1) = st kd k) := hst1
            clear h4 hst1
            go_wp2
            go_round
            case rel => exact ⟨k + 1, by omega, by go_num, by rw [HST.out]⟩
            case measure => simp [intOf]; omega
        · obtain rfl : n = k := by omega
          clear hlt hk
          go_wp2
          go_loopw [15] (fun i wq => ∃ k q : Nat, k ≤ n ∧ i = .int .i64 k ∧ wq = w1.drewN q) (fun i _ => n - (intOf i).toNat)
          case atStart => exact ⟨0, 0, Nat.zero_le _, rfl, rfl⟩
          case round =>
            obtain ⟨k, q, hk, rfl, rfl⟩ := hrel
            by_cases hlt : k < n
            · have hrk := hR1.row k hlt
              have hnk := hR1.name k hlt
              have hpk := hR1.parent k hlt
              have hnn : w1.cell? ⟨bn, on + k, none⟩ = some (.string (nm k)) := (hR1.below.cell (by exact HT.lt)).trans (HT.names k hlt)
              have hk0 : (k : Int) < (n : Int) := by omega
              by_cases h0 : k = 0
              · subst h0
                have hpk' : w1.cell? ⟨w.heap.size + 1 + 0, 2, none⟩ = some (.pointer none) := hpk
                clear hpk
                simp only [Nat.add_zero] at hrk hnk hpk' hnn
                go_wp2
                go_quiet (fail)
                go_wp2
                go_roundw
                case rel => exact ⟨1, _, by omega, by go_num, by first | rfl | exact World.drewN_drewN _ _ _⟩
                case measure => simp [intOf]; omega
              · have hpk' : w1.cell? ⟨w.heap.size + 1 + k, 2, none⟩ = some (.pointer (some ⟨w.heap.size + 1 + (k - 1), 0, none⟩)) := by
                  rw [hpk]
                  obtain ⟨m, rfl⟩ : ∃ m, k = m + 1 := ⟨k - 1, by omega⟩
                  rw [par_succ]; rfl
                have hrp := hR1.row (k - 1) (by omega)
                have h0b : ((k : Int) == 0) = false := by simp; omega
                have hk1 : (k : Int) - 1 < (n : Int) := by omega
                have hk2 : (0 : Int) ≤ (k : Int) - 1 := by omega
                have hk3 : ((k : Int) - 1).toNat = k - 1 := by omega
                clear hpk
                go_wp2
                go_quiet (fail)
                go_wp2
                go_quiet (fail)
                go_wp2
                go_roundw
                case rel => exact ⟨k + 1, _, by omega, by go_num, by first | rfl | exact World.drewN_drewN _ _ _⟩
                case measure => simp [intOf]; omega
            · go_wp2
              go_ret
              exact ⟨rfl, hR1.below.trans ⟨rfl, rfl, rfl, Nat.le_refl _, fun _ _ => rfl⟩⟩

set_option maxHeartbeats 3200000 in
set_option maxRecDepth 100000 in
theorem lawA_two (bn on n cn : Nat) (ak : Option Addr) (bk ok kl kc : Nat) (nm : Nat → ByteArray) (ks kd : Nat → Int) (w : World) (hn0 : 0 < n) (hn : n ≤ 1024)
    (HT : Told bn on n ak bk ok kl nm ks kd w) (hsys : kd (n - 1) ≠ 4) :
    Calls Yba.prog 3 #[.slice (some ⟨bn, on, none⟩) n cn, .slice ak kl kc] w fun e w' => e = .returned (.bool true) ∧ Below w.heap.size w w' := by
  have hmk := run_make_row' (P := Yba.prog) 24 25 (.pointer none) 8 Yba.underlying24 info25 rfl .i64 .i64 n (by omega) (by omega)
  obtain ⟨j25, hj25⟩ : ∃ j, Yba.prog.info? 34 = some j := Option.isSome_iff_exists.1 (by kernel_rfl)
  have q25 : ∀ (w : World) (a : Addr), (binOp .neq 25 (.pointer (some a)) (.pointer (some a))).run Yba.prog w = .ok (.bool false) w := fun w a => neq_ptr_same w a Yba.underlying25 hj25
  have q22n : ∀ (w : World) (a : Option Addr) (n c n' c' : Nat), (binOp .neq 22 (.slice a n c) (.slice none n' c')).run Yba.prog w = .ok (.bool (!a.isNone)) w := fun w a n c n' c' => run_neq_slice_nil_any w _ _ a n c n' c' Yba.underlying22
  have q22e : ∀ (w : World) (a : Option Addr) (n c n' c' : Nat), (binOp .eql 22 (.slice a n c) (.slice none n' c')).run Yba.prog w = .ok (.bool a.isNone) w := fun w a n c n' c' => Lib.run_eql_slice_nil w _ _ a n c n' c' Yba.underlying22
  clear hj25
  have HS : Hid (kd (n - 1) ≠ 4) := hsys
  clear hsys
  have hn1 : ((n : Int) == 0) = false := by simp; omega
  have hn2 : decide ((1024 : Int) < (n : Int)) = false := by simp; omega
  go_enter Yba.func3, Yba.ntmps3
  go_wp2_with fail
  have hB0 := Built.start w n kd nm (madeCells #[.pointer none] n) (by simp [madeCells])
  go_loopw [7, 8] (fun p i wr => ∃ k : Nat, k ≤ n ∧ i = .int .i64 k ∧ p = .pointer (par w.heap.size k) ∧ Built w n kd nm k wr) (fun _ i _ => n - (intOf i).toNat)
  case atStart => exact ⟨0, Nat.zero_le _, rfl, rfl, hB0⟩
  case round =>
    clear hB0
    obtain ⟨k, hk, rfl, rfl, hB⟩ := hrel
    by_cases hlt : k < n
    · obtain ⟨⟨x0, hx0⟩, hf0⟩ := hB.slot hlt
      have hsz := hB.size
      have hcn : wr.cell? ⟨bn, on + k, none⟩ = some (.string (nm k)) := (hB.below.cell (by exact HT.lt)).trans (HT.names k hlt)
      have hx1 : ∀ o, (wr.alloc o).cell? ⟨w.heap.size, k, none⟩ = some x0 := fun o => (World.grownBy_alloc wr o none).cell hx0 (by simp)
      have hf1 : ∀ o, (wr.alloc o).frozen? ⟨w.heap.size, k, none⟩ = false := fun o => (((Below.refl _ _).alloc (Nat.le_refl _) o : Below wr.heap.size wr _).frozen (World.block_lt_of_cell? wr _ hx0)).trans hf0
      have hR := hB.step' hlt
      by_cases hkk : k < kl
      · obtain ⟨rfl, hbk⟩ := HT.addr (by omega)
        have hck : wr.cell? ⟨bk, ok + k, none⟩ = some (.int .u8 (ks k)) := (hB.below.cell (by exact hbk)).trans (HT.kinds k hkk)
        have hk0 := (HT.bytes k).1
        have hk1 := (HT.bytes k).2
        rw [HT.some5 k hkk] at hR
        have HR : Hid (Built w n kd nm (k + 1) ((wr.alloc (.cells (objC (ks k % 5) (nm k) (par w.heap.size k)) 34)).setCell ⟨w.heap.size, k, none⟩ (.pointer (some ⟨w.heap.size + 1 + k, 0, none⟩)))) := hR
        clear hR hB
        go_wp2
        go_roundw
        case rel => exact ⟨k + 1, by omega, by go_num, by rw [par_succ], HR.out⟩
        case measure => simp [intOf]; omega
      · have hkk' : kl ≤ k := by omega
        rw [HT.none5 k hkk'] at hR
        have HR : Hid (Built w n kd nm (k + 1) ((wr.alloc (.cells (objC 0 (nm k) (par w.heap.size k)) 34)).setCell ⟨w.heap.size, k, none⟩ (.pointer (some ⟨w.heap.size + 1 + k, 0, none⟩)))) := hR
        clear hR hB
        go_wp2
        go_roundw
        case rel => exact ⟨k + 1, by omega, by go_num, by rw [par_succ], HR.out⟩
        case measure => simp [intOf]; omega
    · obtain rfl : n = k := by omega
      have hR := hB.ready
      clear hB hlt hk
      have hrow := hR.row (n - 1) (by omega)
      go_wp2_with fail
      refine (path_any hn (n - 1) (by omega) wr hR.objs).mono ?_
      rintro e w1 ⟨v, rfl, hg⟩
      have hR1 := hR.later hg.2.1
      clear hrow hR
      have hstn : st kd n ≠ n := by
        obtain ⟨m, rfl⟩ : ∃ m, n = m + 1 := ⟨n - 1, by omega⟩
        exact fun h => HS.out ((st_eq kd m).1 h)
      have hsl := st_le kd n
      have hstb : ((st kd n : Int) == (n : Int)) = false := by simp; omega
      have hpl : (pathOf kd nm (n - 1)).length = n - st kd n := by rw [path_len, show n - 1 + 1 = n by omega]
      have hown := hg.1
      rw [hpl] at hown
      obtain ⟨m, hm⟩ : ∃ m, n - st kd n = m := ⟨_, rfl⟩
      rw [hm] at hown
      have hms : m + st kd n = n := by omega
      have hm0 : 0 < m := by omega
      obtain ⟨g, cap, rfl, hgb, hgl⟩ := hown.form hm0
      have hgot : ∀ j, j < m → w1.cell? ⟨g, j, none⟩ = some (.string (nm (st kd n + j))) := fun j hj => by
        rw [hown.cellAt j (by omega)]
        have := path_at kd nm (n - 1) j (by rw [show n - 1 + 1 = n by omega]; omega)
        rwa [show n - 1 + 1 = n by omega] at this
      have HG : Hid (∀ j, j < m → w1.cell? ⟨g, j, none⟩ = some (.string (nm (st kd n + j)))) := hgot
      have hm1 : (m : Int) ≤ 1024 := by omega
      have HM : Hid (m + st kd n = n) := hms
      have hlb : ((m : Int) != (n : Int) - (st kd n : Int)) = false := by simp; omega
      have hlm : (st kd n : Int) + (m : Int) ≤ (n : Int) := by omega
      have hst0 : (st kd n : Int) ≤ (n : Int) := by omega
      clear hgot hown hm hpl hstn hg hms hsl
      go_wp2_with fail
      go_loop [12, 13] (fun s i => ∃ k : Nat, k ≤ n ∧ i = .int .i64 k ∧ s = .int .i64 (st kd k)) (fun _ i => n - (intOf i).toNat)
      case atStart => exact ⟨0, Nat.zero_le _, rfl, rfl⟩
      case round =>
        obtain ⟨k, hk, rfl, rfl⟩ := hrel
        by_cases hlt : k < n
        · have hrk := hR1.row k hlt
          have hkk := hR1.kind k hlt
          have hle := st_le kd k
          by_cases h4 : kd k = 4
          · have hb4 : (kd k == 4) = true := by simp [h4]
            have hst1 : st kd (k + 1) = k + 1 := by rw [st, if_pos h4]
            have HST : Hid (st kd (k + 1) = k + 1) := hst1
            clear h4 hst1
            go_wp2
            go_round
            case rel => exact ⟨k + 1, by omega, by go_num, by rw [HST.out]; go_num⟩
            case measure => simp [intOf]; omega
          · have hb4 : (kd k == 4) = false := by simp [h4]
            have hst1 : st kd (k + 1) = st kd k := by rw [st, if_neg h4]
            have HST : Hid (st kd (k + 1) = st kd k) := hst1
            clear h4 hst1
            go_wp2
            go_round
            case rel => exact ⟨k + 1, by omega, by go_num, by rw [HST.out]⟩
            case measure => simp [intOf]; omega
        · obtain rfl : n = k := by omega
          clear hlt hk
          go_wp2
          go_loopw [14] (fun i wq => ∃ k q : Nat, k ≤ m ∧ i = .int .i64 k ∧ wq = w1.drewN q) (fun i _ => m - (intOf i).toNat)
          case atStart => exact ⟨0, 0, Nat.zero_le _, rfl, rfl⟩
          case round =>
            obtain ⟨k, q, hk, rfl, rfl⟩ := hrel
            by_cases hlt : k < m
            · have hgk := HG.out k hlt
              have hnn : w1.cell? ⟨bn, on + (st kd n + k), none⟩ = some (.string (nm (st kd n + k))) := (hR1.below.cell (by exact HT.lt)).trans (HT.names _ (by have := HM.out; omega))
              have hk0 : (k : Int) < (m : Int) := by omega
              have hk1 : (st kd n : Int) + (k : Int) < (n : Int) := by omega
              have hk2 : (0 : Int) ≤ (st kd n : Int) + (k : Int) := by omega
              have hk3 : ((st kd n : Int) + (k : Int)).toNat = st kd n + k := by omega
              go_wp2
              go_quiet (fail)
              go_wp2
              go_roundw
              case rel => exact ⟨k + 1, _, by omega, by go_num, by first | rfl | exact World.drewN_drewN _ _ _⟩
              case measure => simp [intOf]; omega
            · clear HG
              go_wp2
              go_loopw [15] (fun i wq => ∃ k q : Nat, k ≤ n ∧ i = .int .i64 k ∧ wq = w1.drewN q) (fun i _ => n - (intOf i).toNat)
              case atStart => exact ⟨0, q, Nat.zero_le _, rfl, rfl⟩
              case round =>
                obtain ⟨k, q, hk, rfl, rfl⟩ := hrel
                by_cases hlt : k < n
                · have hrk := hR1.row k hlt
                  have hnk := hR1.name k hlt
                  have hpk := hR1.parent k hlt
                  have hnn : w1.cell? ⟨bn, on + k, none⟩ = some (.string (nm k)) := (hR1.below.cell (by exact HT.lt)).trans (HT.names k hlt)
                  have hk0 : (k : Int) < (n : Int) := by omega
                  by_cases h0 : k = 0
                  · subst h0
                    have hpk' : w1.cell? ⟨w.heap.size + 1 + 0, 2, none⟩ = some (.pointer none) := hpk
                    clear hpk
                    simp only [Nat.add_zero] at hrk hnk hpk' hnn
                    go_wp2
                    go_quiet (fail)
                    go_wp2
                    go_roundw
                    case rel => exact ⟨1, _, by omega, by go_num, by first | rfl | exact World.drewN_drewN _ _ _⟩
                    case measure => simp [intOf]; omega
                  · have hpk' : w1.cell? ⟨w.heap.size + 1 + k, 2, none⟩ = some (.pointer (some ⟨w.heap.size + 1 + (k - 1), 0, none⟩)) := by
                      rw [hpk]
                      obtain ⟨m, rfl⟩ : ∃ m, k = m + 1 := ⟨k - 1, by omega⟩
                      rw [par_succ]; rfl
                    have hrp := hR1.row (k - 1) (by omega)
                    have h0b : ((k : Int) == 0) = false := by simp; omega
                    have hk1 : (k : Int) - 1 < (n : Int) := by omega
                    have hk2 : (0 : Int) ≤ (k : Int) - 1 := by omega
                    have hk3 : ((k : Int) - 1).toNat = k - 1 := by omega
                    clear hpk
                    go_wp2
                    go_quiet (fail)
                    go_wp2
                    go_quiet (fail)
                    go_wp2
                    go_roundw
                    case rel => exact ⟨k + 1, _, by omega, by go_num, by first | rfl | exact World.drewN_drewN _ _ _⟩
                    case measure => simp [intOf]; omega
                · go_wp2
                  go_ret
                  exact ⟨rfl, hR1.below.trans ⟨rfl, rfl, rfl, Nat.le_refl _, fun _ _ => rfl⟩⟩
end Go.Proofs.Ybulkchms
