/-
  grantwork.LawS4178BMoves, walked.
-/
import Derived.Test.YbulkchmsFour
namespace Go.Proofs.Ybulkchms
open Go.RowKit

/-- What the walk is told of its first argument: entry k has the fields E k 0 .. E k 3. -/
structure Ents (ad : Option Addr) (be oe n : Nat) (E : Nat → Nat → Int) (w : World) : Prop where
  ad : 0 < n → ad = some ⟨be, oe, none⟩
  lt : 0 < n → be < w.heap.size
  c0 : ∀ k, k < n → w.cell? ⟨be, oe + k * 4, none⟩ = some (.int .u8 (E k 0))
  c1 : ∀ k, k < n → w.cell? ⟨be, oe + k * 4 + 1, none⟩ = some (.int .u8 (E k 1))
  c2 : ∀ k, k < n → w.cell? ⟨be, oe + k * 4 + 2, none⟩ = some (.int .u64 (E k 2))
  c3 : ∀ k, k < n → w.cell? ⟨be, oe + k * 4 + 3, none⟩ = some (.int .u64 (E k 3))
  b0 : ∀ k, 0 ≤ E k 0 ∧ E k 0 < 256
  b1 : ∀ k, 0 ≤ E k 1 ∧ E k 1 < 256

set_option maxHeartbeats 40000000 in
set_option maxRecDepth 100000 in
theorem lawB (ad : Option Addr) (be oe n cn : Nat) (fr to : Int) (w : World) (hn : n ≤ 1024) (E : Nat → Nat → Int) (HE : Ents ad be oe n E w) (hf0 : 0 ≤ fr) (hf1 : fr < 256) (ht0 : 0 ≤ to) (ht1 : to < 256) :
    Calls Yba.prog 4 #[.slice ad n cn, .int .u8 fr, .int .u8 to] w fun e w' => e = .returned (.bool true) ∧ Below w.heap.size w w' := by
  have hmm := @run_makeMap Yba.prog
  have q61 : ∀ (w : World) (r : Option Nat), (binOp .eql 61 (.map r) (.map none)).run Yba.prog w = .ok (.bool r.isNone) w := fun w r => run_eql_map_nil w _ _ _ r under61
  have hd : ¬ (1024 : Int) < (n : Int) := by omega
  go_enter Yba.func4, Yba.ntmps4
  go_wp2
  go_loopw [45] (fun i wr => ∃ k : Nat, k ≤ n ∧ i = .int .i64 k ∧ ∃ pr va im, SW w pr va im wr) (fun i _ => n - (intOf i).toNat)
  case atStart => exact ⟨0, Nat.zero_le _, rfl, fun _ _ => false, fun _ _ => (0, 0), fun _ => none, SW.start w _ _ _⟩
  case round =>
    obtain ⟨k, hk, rfl, pr, va, im, HS⟩ := hrel
    have HM := HS.mid
    by_cases hlt : k < n
    · obtain rfl := HE.ad (by omega)
      have hbe := HE.lt (by omega)
      have c0 : wr.cell? ⟨be, oe + k * 4, none⟩ = some (.int .u8 (E k 0)) := (HM.below.cell hbe).trans (HE.c0 k hlt)
      have c1 : wr.cell? ⟨be, oe + k * 4 + 1, none⟩ = some (.int .u8 (E k 1)) := (HM.below.cell hbe).trans (HE.c1 k hlt)
      have c2 : wr.cell? ⟨be, oe + k * 4 + 2, none⟩ = some (.int .u64 (E k 2)) := (HM.below.cell hbe).trans (HE.c2 k hlt)
      have c3 : wr.cell? ⟨be, oe + k * 4 + 3, none⟩ = some (.int .u64 (E k 3)) := (HM.below.cell hbe).trans (HE.c3 k hlt)
      have b0 := (HE.b0 k).1
      have b1 := (HE.b0 k).2
      have b2 := (HE.b1 k).1
      have b3 := (HE.b1 k).2
      obtain ⟨g, hg⟩ : ∃ g : Nat, E k 0 % 4 = (g : Int) := ⟨(E k 0 % 4).toNat, by omega⟩
      obtain ⟨r, hr⟩ : ∃ r : Nat, E k 1 % 4 = (r : Int) := ⟨(E k 1 % 4).toNat, by omega⟩
      have g4 : g < 4 := by omega
      have r4 : r < 4 := by omega
      have gi : (g : Int) < 4 := by omega
      have ri : (r : Int) < 4 := by omega
      obtain ⟨x1, hx1⟩ : ∃ x1, E k 2 % 4294967296 = x1 := ⟨_, rfl⟩
      obtain ⟨x2, hx2⟩ : ∃ x2, E k 3 % 4294967296 = x2 := ⟨_, rfl⟩
      have HM1 : MW w pr va im (hmOf pr va) ((wr.alloc (.cells #[.int .u8 (E k 0), .int .u8 (E k 1), .int .u64 (E k 2), .int .u64 (E k 3)] 60)).alloc (.cells #[.int .u32 x1, .int .u32 x2] 55)) :=
        (HM.more (World.grownBy_alloc _ _ _)).more (World.grownBy_alloc _ _ _)
      have hsz := HM.size
      clear HM hbe
      go_wp2_with (refine at_setP rfl (.tmp 67) _ rfl (w.heap.size + 1 + 1 + 1 + 1) (w.heap.size + 1 + 1 + 1 + 1 + 1) g r true pr va rfl rfl HM1.grid (by omega) g4 r4 ?_)
      intro W2 hg2 hs2 hG2
      have hl1 : (wr.alloc (.cells #[.int .u8 (E k 0), .int .u8 (E k 1), .int .u64 (E k 2), .int .u64 (E k 3)] 60)).heap.size = wr.heap.size + 1 := by simp
      have d0 : W2.cell? ⟨wr.heap.size + 1, 0, none⟩ = some (.int .u32 x1) := by
        have := hg2.cell (World.cell?_alloc_new _ _ 55 0) (by simp; omega); rwa [hl1] at this
      have d1 : W2.cell? ⟨wr.heap.size + 1, 1, none⟩ = some (.int .u32 x2) := by
        have := hg2.cell (World.cell?_alloc_new _ _ 55 1) (by simp; omega); rwa [hl1] at this
      have HM2 := (HM1.setP hg2 hG2).more (grown_drew W2)
      have hz2 : W2.heap.size = wr.heap.size + 2 := by rw [hs2]
      clear HM1 hg2 hG2 hs2 hl1 c0 c1 c2 c3
      go_wp2
      go_still_tail 5, (by kernel_rfl)
      refine at_setV rfl (.tmp 72) (.tmp 70) rfl (w.heap.size + 1 + 1 + 1 + 1) (w.heap.size + 1 + 1 + 1 + 1 + 1) g r x1 x2 (upd2 pr g r true) va rfl rfl HM2.grid (by omega) g4 r4 ?_
      intro W3 hg3 hs3 hG3
      have HM3 := HM2.setV hg3 hG3
      have hz3 : W3.heap.size = wr.heap.size + 2 := by rw [hs3]; exact hz2
      have e0 : W3.cell? ⟨wr.heap.size + 1, 0, none⟩ = some (.int .u32 x1) := hg3.cell d0 (by simp; omega)
      have e1 : W3.cell? ⟨wr.heap.size + 1, 1, none⟩ = some (.int .u32 x2) := hg3.cell d1 (by simp; omega)
      have ag := HM3.arr g g4
      have ar := HM3.arr r r4
      have hsz3 := HM3.size
      have HT := HS.tie
      have HH3 : Hid (MW w (upd2 pr g r true) (upd2 va g r (x1, x2)) im (hmOf pr va) W3) := HM3
      clear HM2 hg3 hG3 hs3 d0 d1 HM3
      cases hig : im g with
      | some b =>
        have HIG : Hid (im g = some b) := hig
        have hlk : (if false then Value.tuple #[((im g).map fun b => Value.map (some b)).getD (.map none), .bool ((im g).map fun b => Value.map (some b)).isSome] else ((im g).map fun b => Value.map (some b)).getD (.map none)) = .map (some b) := by simp [hig]
        have hlkd : (Instr.lookup 31 (.map (some (w.heap.size + 1 + 1 + 1 + 1 + 1 + 1))) (kp w.heap.size g) false).run Yba.prog { W3 with drawn := W3.drawn + 1 } = .ok (.map (some b)) { W3 with drawn := W3.drawn + 1 } := by
          have := (HH3.out.more (grown_drew W3)).outer.lookup (HH3.out.more (grown_drew W3)).roles under31 (zero61 _) g g4 false
          rw [hlk] at this; exact this
        have HLK : Hid ((if false then Value.tuple #[((im g).map fun b => Value.map (some b)).getD (.map none), .bool ((im g).map fun b => Value.map (some b)).isSome] else ((im g).map fun b => Value.map (some b)).getD (.map none)) = .map (some b)) := hlk
        clear hlk hig
        go_frame
        go_wp2_with (refine at_look rfl _ _ 31 false rfl under31 w.heap.size (w.heap.size + 1 + 1 + 1 + 1 + 1 + 1) g _ (.map none) (zero61 _) rfl rfl HH3.out.outer HH3.out.roles g4 (.map (some b)) HLK.out ?_)
        go_still_tail 9, (by kernel_rfl)
        refine still_look rfl (.tmp 84) (.tmp 87) 31 false rfl _ _ _ rfl rfl hlkd ?_
        go_frame
        repeat still_step
        refine wpStill_nil ?_
        refine at_update rfl (.tmp 88) (.tmp 91) (.tmp 92) 61 rfl under61 w.heap.size b r (view (hmOf pr va g)) (hv (x1, x2)) rfl rfl rfl (HH3.out.maps.inner g g4 b HIG.out) HH3.out.roles r4 ?_
        intro W4 hg4 hs4 hM4
        have HS4 := HH3.out.stA HT g4 r4 HIG.out ((grown_any (grown_drew W3)).trans hg4) hM4
        clear hM4 hg4 hs4 HLK HT HH3 HS e0 e1 ag ar hlkd
        go_frame
        go_wp2
        go_roundw
        case rel => exact ⟨k + 1, by omega, by go_num, _, _, _, HS4⟩
        case measure => simp [intOf]; omega
      | none =>
        have HIG : Hid (im g = none) := hig
        have hlk : (if false then Value.tuple #[((im g).map fun b => Value.map (some b)).getD (.map none), .bool ((im g).map fun b => Value.map (some b)).isSome] else ((im g).map fun b => Value.map (some b)).getD (.map none)) = .map none := by simp [hig]
        have HLK : Hid ((if false then Value.tuple #[((im g).map fun b => Value.map (some b)).getD (.map none), .bool ((im g).map fun b => Value.map (some b)).isSome] else ((im g).map fun b => Value.map (some b)).getD (.map none)) = .map none) := hlk
        have HH4 : Hid (MW w (upd2 pr g r true) (upd2 va g r (x1, x2)) im (hmOf pr va) (W3.alloc (.map #[] 0))) := HH3.out.more (World.grownBy_alloc _ _ _)
        have HNB : Hid (∀ g', g' < 4 → im g' ≠ some (wr.heap.size + 2)) := fun g' h4 e => by have := (HH3.out.maps.inner g' h4 _ e).lt; omega
        have HMD : Hid (MapV w.heap.size (wr.heap.size + 2) (fun _ => none) (W3.alloc (.map #[] 0))) := by
          have := MapV.made w.heap.size W3; rwa [hz3] at this
        have hzz : (W3.alloc (.map #[] 0)).heap.size = wr.heap.size + 3 := by simp [hz3]
        have HZZ : Hid ((W3.alloc (.map #[] 0)).heap.size = wr.heap.size + 3) := hzz
        clear hlk hig hzz
        go_frame
        go_wp2_with (first
          | (refine at_look rfl _ _ 31 false rfl under31 w.heap.size (w.heap.size + 1 + 1 + 1 + 1 + 1 + 1) g _ (.map none) (zero61 _) rfl rfl HH3.out.outer HH3.out.roles g4 (.map none) HLK.out ?_)
          | (refine at_update rfl _ _ _ 31 rfl under31 w.heap.size (w.heap.size + 1 + 1 + 1 + 1 + 1 + 1) g _ (.map (some (wr.heap.size + 2))) rfl rfl rfl HH4.out.outer HH4.out.roles g4 ?_))
        intro W4 hg4 hs4 hM4
        have hin4 : MapV w.heap.size (wr.heap.size + 2) (view (fun _ => none)) W4 := (HMD.out.kept hg4 (by simp; omega)).congr (fun _ _ => rfl)
        have HH5 : Hid (MW w (upd2 pr g r true) (upd2 va g r (x1, x2)) (fun g' => if g' = g then some (wr.heap.size + 2) else im g') (fun g' => if g' = g then (fun _ => none) else hmOf pr va g') W4) :=
          HH4.out.outerNew hg4 (by rw [HZZ.out]; omega) HNB.out hM4 hin4 (by rw [HZZ.out]; omega)
        have f0 : W4.cell? ⟨wr.heap.size + 1, 0, none⟩ = some (.int .u32 x1) := hg4.cell ((World.grownBy_alloc W3 _ none).cell e0 (by simp)) (by simp; omega)
        have f1 : W4.cell? ⟨wr.heap.size + 1, 1, none⟩ = some (.int .u32 x2) := hg4.cell ((World.grownBy_alloc W3 _ none).cell e1 (by simp)) (by simp; omega)
        have bg := HH5.out.arr g g4
        have br := HH5.out.arr r r4
        have hlkd : (Instr.lookup 31 (.map (some (w.heap.size + 1 + 1 + 1 + 1 + 1 + 1))) (kp w.heap.size g) false).run Yba.prog { W4 with drawn := W4.drawn + 1 } = .ok (.map (some (wr.heap.size + 2))) { W4 with drawn := W4.drawn + 1 } := by
          have := (HH5.out.more (grown_drew W4)).outer.lookup (HH5.out.more (grown_drew W4)).roles under31 (zero61 _) g g4 false
          simpa using this
        have HIN4 : Hid (MapV w.heap.size (wr.heap.size + 2) (view (fun _ => none)) W4) := hin4
        clear hin4 hM4 hg4 hs4 e0 e1 ag ar HMD HNB HH4 HH3 HLK
        try go_frame
        go_wp2
        go_still_tail 9, (by kernel_rfl)
        refine still_look rfl (.tmp 84) (.tmp 87) 31 false rfl _ _ _ rfl rfl hlkd ?_
        go_frame
        repeat still_step
        refine wpStill_nil ?_
        refine at_update rfl (.tmp 88) (.tmp 91) (.tmp 92) 61 rfl under61 w.heap.size (wr.heap.size + 2) r (view (fun _ => none)) (hv (x1, x2)) rfl rfl rfl HIN4.out HH5.out.roles r4 ?_
        intro W5 hg5 hs5 hM5
        have HS5 := HH5.out.stB HT g4 r4 HIG.out ((grown_any (grown_drew W4)).trans hg5) hM5
        clear hM5 hg5 hs5 HT HH5 HS f0 f1 bg br hlkd HIN4 HZZ
        go_frame
        go_wp2
        go_roundw
        case rel => exact ⟨k + 1, by omega, by go_num, _, _, _, HS5⟩
        case measure => simp [intOf]; omega
    · have hke : ¬ (k : Int) < (n : Int) := by omega
      obtain ⟨w1, rfl⟩ : ∃ w1 : World, w1 = wr := ⟨_, rfl⟩
      obtain ⟨f, hf⟩ : ∃ f : Nat, fr % 4 = (f : Int) := ⟨(fr % 4).toNat, by omega⟩
      obtain ⟨t, ht⟩ : ∃ t : Nat, to % 4 = (t : Int) := ⟨(to % 4).toNat, by omega⟩
      have f4 : f < 4 := by omega
      have t4 : t < 4 := by omega
      have fi : (f : Int) < 4 := by omega
      have ti : (t : Int) < 4 := by omega
      have HT := HS.tie
      have HA0 : MW w pr va im (hmOf pr va) (w1.alloc (.cells #[.bool false, .bool false, .bool false, .bool false] 52)) := HM.more (World.grownBy_alloc _ _ _)
      have HF0 : Flags w1.heap.size (flagsAt pr 0 0) (w1.alloc (.cells #[.bool false, .bool false, .bool false, .bool false] 52)) := (Flags.start w1).congr fun j _ => (flagsAt_zero pr j).symm
      have hs1 := HM.size
      clear HS HM HE
      go_wp2
      go_loopw [19, 20] (fun c i wq => ∃ k : Nat, k ≤ 4 ∧ i = .int .i64 k ∧ c = .int .i64 (cntTo (had pr) k) ∧ MW w pr va im (hmOf pr va) wq ∧ Flags w1.heap.size (flagsAt pr k 0) wq) (fun _ i _ => 4 - (intOf i).toNat)
      case atStart => exact ⟨0, Nat.zero_le _, rfl, rfl, HA0, HF0⟩
      case round =>
        clear HA0 HF0
        obtain ⟨k, hk, rfl, rfl, HM, HF⟩ := hrel
        obtain ⟨w2, rfl⟩ : ∃ w2 : World, w2 = wr := ⟨_, rfl⟩
        have hcl := cntTo_le (had pr) k
        by_cases hlt : k < 4
        · have ki : (k : Int) < 4 := by omega
          go_wp2
          go_loopw [21] (fun i wq => ∃ m : Nat, m ≤ 4 ∧ i = .int .i64 m ∧ MW w pr va im (hmOf pr va) wq ∧ Flags w1.heap.size (flagsAt pr k m) wq) (fun i _ => 4 - (intOf i).toNat)
          case atStart => exact ⟨0, Nat.zero_le _, rfl, HM, HF⟩
          case round =>
            clear HM HF
            obtain ⟨m, hm, rfl, HM, HF⟩ := hrel
            by_cases hmt : m < 4
            · have mi : (m : Int) < 4 := by omega
              have cp := HM.p k m hlt hmt
              cases hp : pr k m with
              | false =>
                rw [hp] at cp
                have HF' := HF.congr fun j _ => flagsAt_no pr k m j hp
                clear hp HF
                go_wp2
                go_roundw
                case rel => exact ⟨m + 1, by omega, by go_num, HM, HF'⟩
                case measure => simp [intOf]; omega
              | true =>
                rw [hp] at cp
                have HP : Hid (pr k m = true) := hp
                clear hp
                go_wp2_with (refine at_setH rfl (.tmp 114) _ rfl w1.heap.size k true (flagsAt pr k m) rfl rfl HF hlt ?_)
                intro W3 hg3 hs3 hF3
                have HF' := hF3.congr fun j _ => flagsAt_yes pr k m j HP.out
                obtain ⟨bc, bt, bz, hbk⟩ := HF.block
                have HM' : MW w pr va im (hmOf pr va) W3 := HM.high hg3 (by omega) hbk
                clear hbk
                clear hg3 hs3 hF3 HF HM cp
                go_wp2
                go_roundw
                case rel => exact ⟨m + 1, by omega, by go_num, HM', HF'⟩
                case measure => simp [intOf]; omega
            · obtain rfl : 4 = m := by omega
              have HF' := HF.congr fun j _ => flagsAt_next pr k j
              have cf := HF'.cell k hlt
              rw [flags_done] at cf
              have hcs := cntTo_succ (had pr) k
              cases hh : had pr k with
              | false =>
                rw [hh] at cf hcs
                clear hh HF
                simp only [Bool.false_eq_true, if_false, Nat.add_zero] at hcs
                have HC : Hid (cntTo (had pr) (k + 1) = cntTo (had pr) k) := hcs
                clear hcs
                go_wp2
                go_roundw
                case rel => exact ⟨k + 1, by omega, by go_num, by rw [HC.out], HM, HF'⟩
                case measure => simp [intOf]; omega
              | true =>
                rw [hh] at cf hcs
                clear hh HF
                simp only [if_true] at hcs
                have HC : Hid (cntTo (had pr) (k + 1) = cntTo (had pr) k + 1) := hcs
                clear hcs
                go_wp2
                go_roundw
                case rel => exact ⟨k + 1, by omega, by go_num, by rw [HC.out]; go_num, HM, HF'⟩
                case measure => simp [intOf]; omega
        · obtain ⟨k2, rfl⟩ : ∃ k2, k2 = k := ⟨_, rfl⟩
          have hk4 : k2 = 4 := by omega
          have hki : ¬ (k2 : Int) < 4 := by omega
          have HFe : Flags w1.heap.size (had pr) w2 := (HF.congr fun j _ => (by rw [hk4] : flagsAt pr k2 0 j = flagsAt pr 4 0 j)).congr fun j hj => flagsAt_end pr j hj
          have HK4 : Hid (k2 = 4) := hk4
          clear HF hk4
          go_wp2
          go_loopw [22] (fun i wq => ∃ k : Nat, k ≤ 4 ∧ i = .int .i64 k ∧ ∃ pr' va', Rows4 pr va f t k pr' va' ∧ MW w pr' va' im (hmOf pr va) wq ∧ Flags w1.heap.size (had pr) wq) (fun i _ => 4 - (intOf i).toNat)
          case atStart => exact ⟨0, Nat.zero_le _, rfl, pr, va, Rows4.start _ _ _ _, HM, HFe⟩
          case round =>
            clear HM HFe
            obtain ⟨k, hk, rfl, pr', va', hR4, HM, HF⟩ := hrel
            obtain ⟨w3, rfl⟩ : ∃ w3 : World, w3 = wr := ⟨_, rfl⟩
            by_cases hlt : k < 4
            · have ki : (k : Int) < 4 := by omega
              have cp := HM.p k f hlt f4
              have hs3 := HM.size
              have hl3 := HF.lt
              cases hp : pr' k f with
              | false =>
                rw [hp] at cp
                have HR : Hid (Rows4 pr va f t (k + 1) pr' va') := hR4.no hp
                clear hp hR4
                go_wp2
                go_roundw
                case rel => exact ⟨k + 1, by omega, by go_num, pr', va', HR.out, HM, HF⟩
                case measure => simp [intOf]; omega
              | true =>
                rw [hp] at cp
                have HR : Hid (Rows4 pr va f t (k + 1) (stepP pr' k f t) (stepV va' k f t (orH (oldV pr' va' k f t) (va' k f)))) := hR4.yes hp
                clear hp hR4
                have cv1 := HM.v1 k f hlt f4
                have cv2 := HM.v2 k f hlt f4
                have HM1 : Hid (MW w pr' va' im (hmOf pr va) (w3.alloc (.cells #[.int .u32 (va' k f).1, .int .u32 (va' k f).2] 55))) := HM.more (World.grownBy_alloc _ _ _)
                have HF1 : Hid (Flags w1.heap.size (had pr) (w3.alloc (.cells #[.int .u32 (va' k f).1, .int .u32 (va' k f).2] 55))) := HF.grown (World.grownBy_alloc _ _ none) (by simp)
                clear HM HF
                go_wp2_with (refine at_setP rfl (.tmp 137) _ rfl (w.heap.size + 1 + 1 + 1 + 1) (w.heap.size + 1 + 1 + 1 + 1 + 1) k f false pr' va' rfl rfl HM1.out.grid (by omega) hlt f4 ?_)
                intro W4 hg4 hs4 hG4
                have HM4 : Hid (MW w (upd2 pr' k f false) va' im (hmOf pr va) W4) := HM1.out.setP hg4 hG4
                have HF4 : Hid (Flags w1.heap.size (had pr) W4) := HF1.out.grown hg4 (by simp; omega)
                have d1 : W4.cell? ⟨w3.heap.size, 0, none⟩ = some (.int .u32 (va' k f).1) := hg4.cell (World.cell?_alloc_new w3 _ 55 0) (by simp; omega)
                have d2 : W4.cell? ⟨w3.heap.size, 1, none⟩ = some (.int .u32 (va' k f).2) := hg4.cell (World.cell?_alloc_new w3 _ 55 1) (by simp; omega)
                have hs4' : W4.heap.size = w3.heap.size + 1 := by simpa using hs4
                clear hs4 hg4 hG4 HM1 HF1 cp cv1 cv2
                go_wp2_with (refine at_setV rfl (.tmp 142) _ rfl (w.heap.size + 1 + 1 + 1 + 1) (w.heap.size + 1 + 1 + 1 + 1 + 1) k f 0 0 (upd2 pr' k f false) va' rfl rfl HM4.out.grid (by omega) hlt f4 ?_)
                intro W5 hg5 hs5 hG5
                have HM5 : Hid (MW w (upd2 pr' k f false) (upd2 va' k f (0, 0)) im (hmOf pr va) W5) := HM4.out.setV hg5 hG5
                have HF5 : Hid (Flags w1.heap.size (had pr) W5) := HF4.out.grown hg5 (by simp; omega)
                have hs5' : W5.heap.size = w3.heap.size + 1 := by omega
                obtain ⟨W6, hW6⟩ : ∃ W6, W6 = W5.alloc (.cells #[.int .u32 0, .int .u32 0] 55) := ⟨_, rfl⟩
                have hg6 : W5.grownBy W6 none := by rw [hW6]; exact World.grownBy_alloc _ _ _
                have HM6 : Hid (MW w (upd2 pr' k f false) (upd2 va' k f (0, 0)) im (hmOf pr va) W6) := HM5.out.more hg6
                have HF6 : Hid (Flags w1.heap.size (had pr) W6) := HF5.out.grown hg6 (by simp)
                have hs6 : W6.heap.size = w3.heap.size + 1 + 1 := by rw [hW6]; simp [hs5']
                have d3 : W6.cell? ⟨w3.heap.size, 0, none⟩ = some (.int .u32 (va' k f).1) := hg6.cell (hg5.cell d1 (by simp; omega)) (by simp)
                have d4 : W6.cell? ⟨w3.heap.size, 1, none⟩ = some (.int .u32 (va' k f).2) := hg6.cell (hg5.cell d2 (by simp; omega)) (by simp)
                have d5 : W6.cell? ⟨w3.heap.size + 1, 0, none⟩ = some (.int .u32 0) := by rw [hW6, ← hs5', World.cell?_alloc_new]; rfl
                have d6 : W6.cell? ⟨w3.heap.size + 1, 1, none⟩ = some (.int .u32 0) := by rw [hW6, ← hs5', World.cell?_alloc_new]; rfl
                have d7 : ∀ j, W6.frozen? ⟨w3.heap.size + 1, j, none⟩ = false := fun j => by rw [hW6, ← hs5']; exact frozen_of_row _ _ j _ 55 (heap_alloc_new W5 _)
                have d8 : ∃ cs ty fz, W6.heap[w3.heap.size + 1]? = some (.cells cs ty fz) := by rw [hW6, ← hs5']; exact ⟨_, _, _, heap_alloc_new W5 _⟩
                have HD : Hid (W6.frozen? ⟨w3.heap.size + 1, 0, none⟩ = false ∧ W6.frozen? ⟨w3.heap.size + 1, 1, none⟩ = false ∧ ∃ cs ty fz, W6.heap[w3.heap.size + 1]? = some (.cells cs ty fz)) := ⟨d7 0, d7 1, d8⟩
                have HW6 := hW6.symm
                clear hs5 hg5 hG5 HM4 HF4 d1 d2 hs4' HM5 HF5 hg6 d7 d8 hW6
                have cq := HM6.out.p k t hlt t4
                obtain ⟨o1, o2, ho⟩ : ∃ o1 o2, oldV pr' va' k f t = (o1, o2) := ⟨_, _, rfl⟩
                rw [ho] at HR
                cases hq : upd2 pr' k f false k t with
                | false =>
                  rw [hq] at cq
                  have hox : (o1, o2) = (0, 0) := by rw [← ho]; unfold oldV; rw [hq]; rfl
                  obtain ⟨rfl, rfl⟩ := Prod.mk.inj hox
                  clear hq hox ho
                  go_wp2
                  obtain ⟨W7, rfl⟩ : ∃ W7 : World, W7 = W6 := ⟨_, rfl⟩
                  have HM7 := HM6
                  have HF7 := HF6
                  clear HM6 HF6
                  have cs7 := HM7.out.size
                  go_still_tail 15, (by kernel_rfl)
                  refine at_setV rfl (.tmp 167) (.tmp 165) rfl (w.heap.size + 1 + 1 + 1 + 1) (w.heap.size + 1 + 1 + 1 + 1 + 1) k t (orH (0, 0) (va' k f)).1 (orH (0, 0) (va' k f)).2 (upd2 pr' k f false) (upd2 va' k f (0, 0)) rfl rfl (HM7.out.more (grown_drew W7)).grid (by omega) hlt t4 ?_
                  intro W8 hg8 hs8 hG8
                  have HM8 : Hid (MW w (upd2 pr' k f false) (stepV va' k f t (orH (0, 0) (va' k f))) im (hmOf pr va) W8) := HM7.out.setV ((grown_any (grown_drew W7)).trans hg8) hG8
                  have HF8 : Hid (Flags w1.heap.size (had pr) W8) := HF7.out.grown ((grown_any (grown_drew W7)).trans hg8) (by simp; omega)
                  clear hg8 hs8 hG8 HM7 HF7 cq d3 d4 d5 d6
                  go_wp2_with (refine at_setP rfl (.tmp 171) _ rfl (w.heap.size + 1 + 1 + 1 + 1) (w.heap.size + 1 + 1 + 1 + 1 + 1) k t true (upd2 pr' k f false) (stepV va' k f t (orH (0, 0) (va' k f))) rfl rfl HM8.out.grid (by omega) hlt t4 ?_)
                  intro W9 hg9 hs9 hG9
                  have HM9 : Hid (MW w (stepP pr' k f t) (stepV va' k f t (orH (0, 0) (va' k f))) im (hmOf pr va) W9) := HM8.out.setP hg9 hG9
                  have HF9 : Hid (Flags w1.heap.size (had pr) W9) := HF8.out.grown hg9 (by simp; omega)
                  clear hg9 hs9 hG9 HM8 HF8
                  go_wp2
                  go_roundw
                  case rel => exact ⟨k + 1, by omega, by go_num, _, _, HR.out, HM9.out, HF9.out⟩
                  case measure => simp [intOf]; omega
                | true =>
                  rw [hq] at cq
                  have e1 := HM6.out.v1 k t hlt t4
                  have e2 := HM6.out.v2 k t hlt t4
                  have hox : (o1, o2) = upd2 va' k f (0, 0) k t := by rw [← ho]; unfold oldV; rw [hq]; rfl
                  rw [← hox] at e1 e2
                  clear hq hox ho
                  have fz0 := HD.out.1
                  have fz1 := HD.out.2.1
                  go_wp2
                  generalize hW7 : ((W6.setCell ⟨w3.heap.size + 1, 0, none⟩ (.int .u32 o1)).setCell ⟨w3.heap.size + 1, 1, none⟩ (.int .u32 o2)) = W7
                  have hg7 : W6.grownBy W7 (some (w3.heap.size + 1)) := by rw [← hW7]; exact (grown_setCell W6 ⟨w3.heap.size + 1, 0, none⟩ (.int .u32 o1)).trans (grown_setCell _ ⟨w3.heap.size + 1, 1, none⟩ (.int .u32 o2))
                  have HM7 : Hid (MW w (upd2 pr' k f false) (upd2 va' k f (0, 0)) im (hmOf pr va) W7) := by
                    obtain ⟨cs, ty, fz, hb⟩ := HD.out.2.2
                    exact HM6.out.high hg7 (by omega) hb
                  have HF7 : Hid (Flags w1.heap.size (had pr) W7) := HF6.out.grown hg7 (by simp; omega)
                  have g3 : W7.cell? ⟨w3.heap.size, 0, none⟩ = some (.int .u32 (va' k f).1) := hg7.cell d3 (by simp)
                  have g4 : W7.cell? ⟨w3.heap.size, 1, none⟩ = some (.int .u32 (va' k f).2) := hg7.cell d4 (by simp)
                  have g5 : W7.cell? ⟨w3.heap.size + 1, 0, none⟩ = some (.int .u32 o1) := by
                    rw [← hW7, World.cell?_setCell_other _ _ _ _ (by simp)]; exact World.cell?_setCell_same _ _ _ d5
                  have g6 : W7.cell? ⟨w3.heap.size + 1, 1, none⟩ = some (.int .u32 o2) := by
                    rw [← hW7]; exact World.cell?_setCell_same _ _ _ (by rw [World.cell?_setCell_other _ _ _ _ (by simp)]; exact d6)
                  clear hg7 hW7 HM6 HF6 d5 d6 e1 e2 fz0 fz1
                  have cs7 := HM7.out.size
                  go_still_tail 15, (by kernel_rfl)
                  refine at_setV rfl (.tmp 167) (.tmp 165) rfl (w.heap.size + 1 + 1 + 1 + 1) (w.heap.size + 1 + 1 + 1 + 1 + 1) k t (orH (o1, o2) (va' k f)).1 (orH (o1, o2) (va' k f)).2 (upd2 pr' k f false) (upd2 va' k f (0, 0)) rfl rfl (HM7.out.more (grown_drew W7)).grid (by omega) hlt t4 ?_
                  intro W8 hg8 hs8 hG8
                  have HM8 : Hid (MW w (upd2 pr' k f false) (stepV va' k f t (orH (o1, o2) (va' k f))) im (hmOf pr va) W8) := HM7.out.setV ((grown_any (grown_drew W7)).trans hg8) hG8
                  have HF8 : Hid (Flags w1.heap.size (had pr) W8) := HF7.out.grown ((grown_any (grown_drew W7)).trans hg8) (by simp; omega)
                  clear hg8 hs8 hG8 HM7 HF7 cq d3 d4 g3 g4 g5 g6
                  go_wp2_with (refine at_setP rfl (.tmp 171) _ rfl (w.heap.size + 1 + 1 + 1 + 1) (w.heap.size + 1 + 1 + 1 + 1 + 1) k t true (upd2 pr' k f false) (stepV va' k f t (orH (o1, o2) (va' k f))) rfl rfl HM8.out.grid (by omega) hlt t4 ?_)
                  intro W9 hg9 hs9 hG9
                  have HM9 : Hid (MW w (stepP pr' k f t) (stepV va' k f t (orH (o1, o2) (va' k f))) im (hmOf pr va) W9) := HM8.out.setP hg9 hG9
                  have HF9 : Hid (Flags w1.heap.size (had pr) W9) := HF8.out.grown hg9 (by simp; omega)
                  clear hg9 hs9 hG9 HM8 HF8
                  go_wp2
                  go_roundw
                  case rel => exact ⟨k + 1, by omega, by go_num, _, _, HR.out, HM9.out, HF9.out⟩
                  case measure => simp [intOf]; omega
            · have HK5 : Hid (k = 4) := show k = 4 by omega
              have hki : ¬ (k : Int) < 4 := by omega
              have HR4 : Hid (∀ g, g < 4 → ∀ r, hmOf pr' va' g r = moved f t (hmOf pr va g) r) := fun g hg r => hR4.done g (by have := HK5.out; omega) r
              have af := HM.arr f f4
              have at_ := HM.arr t t4
              have HH : Hid (MW w pr' va' im (hmOf pr va) w3) := HM
              have HHF : Hid (Flags w1.heap.size (had pr) w3) := HF
              have HHd : Hid (MW w pr' va' im (hmOf pr va) { heap := w3.heap, tape := w3.tape, drawn := w3.drawn + 1, os := w3.os, output := w3.output }) := HM.more (grown_drew w3)
              have HHFd : Hid (Flags w1.heap.size (had pr) { heap := w3.heap, tape := w3.tape, drawn := w3.drawn + 1, os := w3.os, output := w3.output }) := HF.grown (grown_drew w3) (by simp)
              obtain ⟨lo, so, co, hO⟩ := HHd.out.maps.outerAt
              have HO : Hid (OuterAt w.heap.size (w.heap.size + 1 + 1 + 1 + 1 + 1 + 1) im lo so co { heap := w3.heap, tape := w3.tape, drawn := w3.drawn + 1, os := w3.os, output := w3.output }) := hO
              have HCN : Hid (count (fun g => (im g).map fun b => .map (some b)) = cntTo (had pr) k2) := show _ = _ by rw [HK4.out]; exact count_outer HT
              clear HM HF hR4 hO HH HHF
              go_wp2
              go_still_tail 7, (by kernel_rfl)
              clear af at_
              go_wp2_with (first
                | (go_at_call 6; refine (move_any w.heap.size (w.heap.size + 1 + 1 + 1 + 1 + 1 + 1) im lo so co f t (hmOf pr va) f4 t4 _ HO.out HHd.out.maps.inner HHd.out.maps.apart HHd.out.roles).mono ?_; rintro e W4 ⟨rfl, hI4, hk4⟩; have HM4 : Hid (MW w pr' va' im (hmOf pr' va') W4) := (HHd.out.kept hk4 hI4).told HR4.out; have HF4 : Hid (Flags w1.heap.size (had pr) W4) := HHFd.out.keptK HHd.out hk4; clear hI4 hk4)
                | (refine at_size' rfl _ 31 rfl under31 w.heap.size (w.heap.size + 1 + 1 + 1 + 1 + 1 + 1) _ rfl HM4.out.outer _ HCN.out ?_))
              clear HHd HHFd HO HCN HR4
              go_loopw [25] (fun i wq => ∃ g : Nat, g ≤ 4 ∧ i = .int .i64 g ∧ MW w pr' va' im (hmOf pr' va') wq ∧ Flags w1.heap.size (had pr) wq) (fun i _ => 4 - (intOf i).toNat)
              case atStart => exact ⟨0, Nat.zero_le _, rfl, HM4.out, HF4.out⟩
              case round =>
                clear HM4 HF4
                obtain ⟨g, hg, rfl, HM, HF⟩ := hrel
                obtain ⟨w5, rfl⟩ : ∃ w5 : World, w5 = wr := ⟨_, rfl⟩
                by_cases hlt : g < 4
                · have gi : (g : Int) < 4 := by omega
                  have ag := HM.arr g hlt
                  have cf := HF.cell g hlt
                  rw [had_some HT g hlt] at cf
                  have HH : Hid (MW w pr' va' im (hmOf pr' va') w5) := HM
                  have HHF : Hid (Flags w1.heap.size (had pr) w5) := HF
                  clear HM HF
                  cases hig : im g with
                  | none =>
                    rw [hig] at cf
                    have HLK : Hid ((if true then Value.tuple #[((fun g => (im g).map fun b => Value.map (some b)) g).getD (.map none), .bool ((fun g => (im g).map fun b => Value.map (some b)) g).isSome] else ((fun g => (im g).map fun b => Value.map (some b)) g).getD (.map none)) = .tuple #[.map none, .bool false]) := show _ = _ by simp [hig]
                    clear hig
                    go_wp2_with (refine at_look rfl _ _ 31 true rfl under31 w.heap.size (w.heap.size + 1 + 1 + 1 + 1 + 1 + 1) g _ (.map none) (zero61 _) rfl rfl HH.out.outer HH.out.roles hlt _ HLK.out ?_)
                    go_roundw
                    case rel => exact ⟨g + 1, by omega, by go_num, HH.out, HHF.out⟩
                    case measure => simp [intOf]; omega
                  | some b =>
                    rw [hig] at cf
                    have HLK : Hid ((if true then Value.tuple #[((fun g => (im g).map fun b => Value.map (some b)) g).getD (.map none), .bool ((fun g => (im g).map fun b => Value.map (some b)) g).isSome] else ((fun g => (im g).map fun b => Value.map (some b)) g).getD (.map none)) = .tuple #[.map (some b), .bool true]) := show _ = _ by simp [hig]
                    have HIG : Hid (im g = some b) := hig
                    clear hig
                    go_wp2_with (refine at_look rfl _ _ 31 true rfl under31 w.heap.size (w.heap.size + 1 + 1 + 1 + 1 + 1 + 1) g _ (.map none) (zero61 _) rfl rfl HH.out.outer HH.out.roles hlt _ HLK.out ?_)
                    clear HLK ag cf
                    go_loopw [28, 29] (fun c i wq => ∃ r : Nat, r ≤ 4 ∧ i = .int .i64 r ∧ c = .int .i64 (cntTo (pr' g) r) ∧ MW w pr' va' im (hmOf pr' va') wq ∧ Flags w1.heap.size (had pr) wq) (fun _ i _ => 4 - (intOf i).toNat)
                    case atStart => exact ⟨0, Nat.zero_le _, rfl, rfl, HH.out, HHF.out⟩
                    case round =>
                      clear HH HHF
                      obtain ⟨r, hr, rfl, rfl, HM, HF⟩ := hrel
                      obtain ⟨w6, rfl⟩ : ∃ w6 : World, w6 = wr := ⟨_, rfl⟩
                      have hcl := cntTo_le (pr' g) r
                      by_cases hrt : r < 4
                      · have ri : (r : Int) < 4 := by omega
                        have ar := HM.arr r hrt
                        have hsz := HM.size
                        have hcs := cntTo_succ (pr' g) r
                        cases hp : pr' g r with
                        | false =>
                          rw [hp] at hcs
                          simp only [Bool.false_eq_true, if_false, Nat.add_zero] at hcs
                          have HC : Hid (cntTo (pr' g) (r + 1) = cntTo (pr' g) r) := hcs
                          have HLK : Hid ((if true then Value.tuple #[(view (hmOf pr' va' g) r).getD (hv (0, 0)), .bool (view (hmOf pr' va' g) r).isSome] else (view (hmOf pr' va' g) r).getD (hv (0, 0))) = .tuple #[.agg #[.int .u32 0, .int .u32 0], .bool false]) := show _ = _ by simp [view, hmOf, hp, hv]
                          have hg7 : w6.grownBy (w6.alloc (.cells #[.int .u32 0, .int .u32 0] 55)) none := World.grownBy_alloc _ _ _
                          have HM7 : Hid (MW w pr' va' im (hmOf pr' va') (w6.alloc (.cells #[.int .u32 0, .int .u32 0] 55))) := HM.more hg7
                          have HF7 : Hid (Flags w1.heap.size (had pr) (w6.alloc (.cells #[.int .u32 0, .int .u32 0] 55))) := HF.grown hg7 (by simp)
                          have cp := HM7.out.p g r hlt hrt
                          rw [hp] at cp
                          have HMI : Hid (MapV w.heap.size b (view (hmOf pr' va' g)) w6 ∧ Roles w.heap.size w6) := ⟨HM.maps.inner g hlt b HIG.out, HM.roles⟩
                          clear hp hcs hg7 HM HF
                          go_wp2_with (refine at_look rfl _ _ 61 true rfl under61 w.heap.size b r (view (hmOf pr' va' g)) (hv (0, 0)) (zero55 _) rfl rfl HMI.out.1 HMI.out.2 hrt _ HLK.out ?_)
                          go_roundw
                          case rel => exact ⟨r + 1, by omega, by go_num, by rw [HC.out], HM7.out, HF7.out⟩
                          case measure => simp [intOf]; omega
                        | true =>
                          rw [hp] at hcs
                          simp only [if_true] at hcs
                          have HC : Hid (cntTo (pr' g) (r + 1) = cntTo (pr' g) r + 1) := hcs
                          have HLK : Hid ((if true then Value.tuple #[(view (hmOf pr' va' g) r).getD (hv (0, 0)), .bool (view (hmOf pr' va' g) r).isSome] else (view (hmOf pr' va' g) r).getD (hv (0, 0))) = .tuple #[.agg #[.int .u32 (va' g r).1, .int .u32 (va' g r).2], .bool true]) := show _ = _ by simp [view, hmOf, hp, hv]
                          obtain ⟨W7, hW7⟩ : ∃ W7, W7 = w6.alloc (.cells #[.int .u32 (va' g r).1, .int .u32 (va' g r).2] 55) := ⟨_, rfl⟩
                          have hg7 : w6.grownBy W7 none := by rw [hW7]; exact World.grownBy_alloc _ _ _
                          have HM7 : Hid (MW w pr' va' im (hmOf pr' va') W7) := HM.more hg7
                          have HF7 : Hid (Flags w1.heap.size (had pr) W7) := HF.grown hg7 (by simp)
                          have cp := HM7.out.p g r hlt hrt
                          rw [hp] at cp
                          have e1 := HM7.out.v1 g r hlt hrt
                          have e2 := HM7.out.v2 g r hlt hrt
                          have e3 : W7.cell? ⟨w6.heap.size, 0, none⟩ = some (.int .u32 (va' g r).1) := by rw [hW7, World.cell?_alloc_new]; rfl
                          have e4 : W7.cell? ⟨w6.heap.size, 1, none⟩ = some (.int .u32 (va' g r).2) := by rw [hW7, World.cell?_alloc_new]; rfl
                          have qn := fun w => neq_hv (va' g r).1 (va' g r).2 w
                          have HW7 := hW7.symm
                          have HMI : Hid (MapV w.heap.size b (view (hmOf pr' va' g)) w6 ∧ Roles w.heap.size w6) := ⟨HM.maps.inner g hlt b HIG.out, HM.roles⟩
                          clear hp hcs hg7 hW7 HM HF
                          go_wp2_with (refine at_look rfl _ _ 61 true rfl under61 w.heap.size b r (view (hmOf pr' va' g)) (hv (0, 0)) (zero55 _) rfl rfl HMI.out.1 HMI.out.2 hrt _ HLK.out ?_)
                          go_quiet (fail)
                          go_wp2
                          go_roundw
                          case rel => exact ⟨r + 1, by omega, by go_num, by rw [HC.out]; go_num, HM7.out.more (grown_drewN W7 nq), HF7.out.grown (grown_drewN W7 nq) (by simp)⟩
                          case measure => simp [intOf]; omega
                      · have hri : ¬ (r : Int) < 4 := by omega
                        have HCN : Hid (count (view (hmOf pr' va' g)) = cntTo (pr' g) r) := show _ = _ by rw [show r = 4 by omega]; exact count_inner _ _ _
                        have HMI : Hid (MapV w.heap.size b (view (hmOf pr' va' g)) w6) := HM.maps.inner g hlt b HIG.out
                        have HH : Hid (MW w pr' va' im (hmOf pr' va') w6 ∧ Flags w1.heap.size (had pr) w6) := ⟨HM, HF⟩
                        clear HM HF
                        go_wp2_with (refine at_size' rfl _ 61 rfl under61 w.heap.size b _ rfl HMI.out _ HCN.out ?_)
                        go_roundw
                        case rel => exact ⟨g + 1, by omega, by go_num, HH.out.1, HH.out.2⟩
                        case measure => simp [intOf]; omega
                · have hgi : ¬ (g : Int) < 4 := by omega
                  have HH : Hid (Below w.heap.size w w5) := HM.below
                  clear HM HF
                  go_wp2
                  exact bodyPost_ret (v := .bool true) (by simp [results, Yba.results4, go_sem]) rfl ⟨rfl, HH.out⟩
end Go.Proofs.Ybulkchms
