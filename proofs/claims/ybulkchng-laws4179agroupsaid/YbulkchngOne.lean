/-
  LawS4179ASingle.
-/
import Derived.Test.YbulkchngList
namespace Go.Proofs.Ybulkchng
open Go.RowKit Go.Sort
attribute [local go_sem] run_store_float

/-- The parts of a slice that is owned. -/
theorem own_parts {w : World} {B e size n : Nat} {v : Value} {xs : List Value} (h : w.ownsRow B e size v n xs) (d : Nat) : ∃ a b c, v = .slice a n c ∧ (0 < n → a = some ⟨b, 0, none⟩ ∧ v.ownBlock = some b ∧ b < w.heap.size) ∧ (n = 0 → b = d) ∧ ∀ j u, xs[j]? = some u → w.cell? ⟨b, j, none⟩ = some u := by
  rcases h.2 with ⟨q, h0⟩ | ⟨g, cap, cur, q, r1, r2, r⟩
  · refine ⟨none, d, 0, by rw [q, h0], fun h => by omega, fun _ => rfl, fun j u hu => ?_⟩
    have : xs = [] := List.eq_nil_of_length_eq_zero (by rw [h.1, h0]; omega)
    rw [this] at hu; simp at hu
  · by_cases h0 : n = 0
    · subst h0
      have : xs = [] := List.eq_nil_of_length_eq_zero (by rw [h.1]; omega)
      exact ⟨some ⟨g, 0, none⟩, d, cap, q, fun h => by omega, fun _ => rfl, fun j u hu => by rw [this] at hu; simp at hu⟩
    · refine ⟨some ⟨g, 0, none⟩, g, cap, q, fun _ => ⟨rfl, by rw [q]; rfl, (Array.getElem?_eq_some_iff.1 r2).1⟩, fun h => absurd h h0, ?_⟩
      subst q
      exact own_cells h

theorem own_len {B g i c : Nat} {d : Array Mt} {w : World} (h : OwnM B (.slice (some ⟨g, 0, none⟩) i c) d w) (hs : d.size = i) : w.ownsRow B 40 2 (.slice (some ⟨g, 0, none⟩) i c) i (flat d.toList) := by
  unfold OwnM at h; rw [hs] at h; exact h

/-- A list's documents, its scores. -/
def Dl (l : List (Nat × Nat)) (i : Nat) : Nat := (l.getD i (0, 0)).1
def Sl (l : List (Nat × Nat)) (i : Nat) : Nat := (l.getD i (0, 0)).2

theorem up_list {l : List (Nat × Nat)} (h : l.Pairwise (fun x y => x.1 < y.1)) : Up l.length (Dl l) := fun i j hij hj => by
  have := List.pairwise_iff_getElem.1 h i j (by omega) hj hij
  simpa [Dl, hj, show i < l.length by omega] using this

/-- The collector's block. -/
def collObj (limit : Nat) : Obj := .cells #[.int .i64 limit, .slice none 0 0, .int .i64 0, .bool false, .bool false, .float .f64 4427038433705197568] 37

theorem coll_new (W : World) (limit : Nat) : Coll W.heap.size limit (.slice none 0 0) #[] 0 (W.alloc (collObj limit)).heap.size (W.alloc (collObj limit)) := by
  have hb : (W.alloc (collObj limit)).heap[W.heap.size]? = some (.cells #[.int .i64 limit, .slice none 0 0, .int .i64 0, .bool false, .bool false, .float .f64 4427038433705197568] 37 (0, 0)) := heap_alloc_new _ _
  have c : ∀ i, (W.alloc (collObj limit)).cell? ⟨W.heap.size, i, none⟩ = _ := fun i => cell_of_row _ _ i _ 37 (0, 0) hb
  exact ⟨by rw [c]; rfl, by rw [c]; rfl, by rw [c]; rfl, by rw [c]; rfl, by rw [c]; rfl, by rw [c]; rfl, fun i => frozen_of_row _ _ i _ 37 hb, World.ownsRow_nil _ _ _ _, by simp, Nat.le_refl _⟩

theorem scor_new (W : World) {db fb dc fc dflt : Nat} {da fa : Option Addr} {l : List (Nat × Nat)}
    (d1 : 0 < l.length → da = some ⟨db, 0, none⟩ ∧ db < W.heap.size) (s1 : 0 < l.length → fa = some ⟨fb, 0, none⟩ ∧ fb < W.heap.size) (d2 : l.length = 0 → db = dflt) (s2 : l.length = 0 → fb = dflt) (hdf : dflt ≠ W.heap.size)
    (d3 : ∀ j u, (l.map fun x => Value.int .i64 (x.1 : Int))[j]? = some u → W.cell? ⟨db, j, none⟩ = some u) (s3 : ∀ j u, (l.map fun x => Value.float .f64 (fl x.2))[j]? = some u → W.cell? ⟨fb, j, none⟩ = some u) :
    ScorAt ⟨W.heap.size, db, fb, da, fa, l.length, dc, fc⟩ (Dl l) (Sl l) (-1) (W.alloc (.cells #[.slice da l.length dc, .slice fa l.length fc, .int .i64 (-1)] 30)) := by
  have hb : (W.alloc (.cells #[.slice da l.length dc, .slice fa l.length fc, .int .i64 (-1)] 30)).heap[W.heap.size]? = some (.cells #[.slice da l.length dc, .slice fa l.length fc, .int .i64 (-1)] 30 (0, 0)) := heap_alloc_new _ _
  have c : ∀ i, (W.alloc (.cells #[.slice da l.length dc, .slice fa l.length fc, .int .i64 (-1)] 30)).cell? ⟨W.heap.size, i, none⟩ = _ := fun i => cell_of_row _ _ i _ 30 (0, 0) hb
  have gA := World.grownBy_alloc W (.cells #[.slice da l.length dc, .slice fa l.length fc, .int .i64 (-1)] 30) none
  refine ⟨by rw [c]; rfl, by rw [c]; rfl, by rw [c]; rfl, fun i => frozen_of_row _ _ i _ 30 hb, fun h => (d1 h).1, fun h => (s1 h).1, fun i hi => ?_, fun i hi => ?_, ?_, ?_⟩
  · have hi : i < l.length := hi
    exact gA.cell (d3 i _ (by simp [Dl, hi])) (by simp)
  · have hi : i < l.length := hi
    exact gA.cell (s3 i _ (by simp [Sl, hi])) (by simp)
  · show W.heap.size ≠ db
    by_cases h : 0 < l.length
    · have := (d1 h).2; omega
    · rw [d2 (by omega)]; exact hdf.symm
  · show W.heap.size ≠ fb
    by_cases h : 0 < l.length
    · have := (s1 h).2; omega
    · rw [s2 (by omega)]; exact hdf.symm

/-- The search of one clause. -/
def oneCx (sb db fb : Nat) (da fa : Option Addr) (l : List (Nat × Nat)) (dc fc cb base limit n : Nat) : Cx :=
  { m := 1, N := 1, L := fun _ => ⟨sb, db, fb, da, fa, l.length, dc, fc⟩, D := fun _ => Dl l, S := fun _ => Sl l, boost := fun t => if t = 1 then 2 else 1, gb := 0, clb := 0, cc := 0, ob := 0, oc := 0, pa := none, pb := 0, pc := 0, wb := 0, cb := cb, bb := 0, rb := 0, kb := 0, base := base, limit := limit, n := n, lo := 0, hi := 0 }

theorem seg_one {w1 : World} {B0 db fb dc fc base limit n : Nat} {da fa : Option Addr} {l : List (Nat × Nat)} (hB : Built B0 (.slice da l.length dc) (.slice fa l.length fc) l n w1)
    (HD : (0 < l.length → da = some ⟨db, 0, none⟩ ∧ (Value.slice da l.length dc).ownBlock = some db ∧ db < w1.heap.size) ∧ (l.length = 0 → db = w1.heap.size + 2) ∧ ∀ j u, (l.map fun x => Value.int .i64 (x.1 : Int))[j]? = some u → w1.cell? ⟨db, j, none⟩ = some u)
    (HS : (0 < l.length → fa = some ⟨fb, 0, none⟩ ∧ (Value.slice fa l.length fc).ownBlock = some fb ∧ fb < w1.heap.size) ∧ (l.length = 0 → fb = w1.heap.size + 2) ∧ ∀ j u, (l.map fun x => Value.float .f64 (fl x.2))[j]? = some u → w1.cell? ⟨fb, j, none⟩ = some u)
    (hn : n ≤ 1024) (hba : base < 65536) (hli : 1 ≤ limit ∧ limit ≤ 12) :
    Calls Yba.prog 6 #[.pointer (some ⟨w1.heap.size + 1, 0, none⟩), .iface 28 (.pointer (some ⟨w1.heap.size, 0, none⟩)), .int .i64 base, .int .i64 n] ((w1.alloc (.cells #[.slice da l.length dc, .slice fa l.length fc, .int .i64 (-1)] 30)).alloc (.cells #[.int .i64 limit, .slice none 0 0, .int .i64 0, .bool false, .bool false, .float .f64 4427038433705197568] 37))
      fun e w' => e = .returned (.tuple #[]) ∧ ∃ v h B, Coll (w1.heap.size + 1) limit v h l.length B w' ∧ Kept limit (mts base l) h ∧ Small h ∧ w1.grownBy w' none := by
  obtain ⟨W2, hW2⟩ : ∃ W2, W2 = w1.alloc (.cells #[.slice da l.length dc, .slice fa l.length fc, .int .i64 (-1)] 30) := ⟨_, rfl⟩
  have hS2 : ScorAt ⟨w1.heap.size, db, fb, da, fa, l.length, dc, fc⟩ (Dl l) (Sl l) (-1) W2 := by
    rw [hW2]; exact scor_new w1 (fun h => ⟨(HD.1 h).1, (HD.1 h).2.2⟩) (fun h => ⟨(HS.1 h).1, (HS.1 h).2.2⟩) HD.2.1 HS.2.1 (by omega) HD.2.2 HS.2.2
  have s2 : W2.heap.size = w1.heap.size + 1 := by rw [hW2]; simp
  have g2 : w1.grownBy W2 none := by rw [hW2]; exact World.grownBy_alloc _ _ none
  rw [← hW2]
  obtain ⟨W3, hW3⟩ : ∃ W3, W3 = W2.alloc (collObj limit) := ⟨_, rfl⟩
  have hC3 : Coll W2.heap.size limit (.slice none 0 0) #[] 0 W3.heap.size W3 := by rw [hW3]; exact coll_new W2 limit
  have g3 : W2.grownBy W3 none := by rw [hW3]; exact World.grownBy_alloc _ _ none
  have s3 : W3.heap.size = w1.heap.size + 2 := by rw [hW3]; simp; omega
  have hS3 := hS2.kept g3 (by simp) (by simp) (by simp)
  rw [s2] at hC3
  have hdl : db ≤ w1.heap.size + 2 ∧ db ≠ w1.heap.size ∧ db ≠ w1.heap.size + 1 := by
    by_cases h : 0 < l.length
    · have := (HD.1 h).2.2; omega
    · have := HD.2.1 (by omega); omega
  have hfl : fb ≤ w1.heap.size + 2 ∧ fb ≠ w1.heap.size ∧ fb ≠ w1.heap.size + 1 := by
    by_cases h : 0 < l.length
    · have := (HS.1 h).2.2; omega
    · have := HS.2.1 (by omega); omega
  have hup := up_list hB.up
  have gd : ∀ i, i < l.length → l.getD i (0, 0) ∈ l := fun i hi => by simp [hi]
  have hSem : Sem (oneCx w1.heap.size db fb da fa l dc fc (w1.heap.size + 1) base limit n) := by
    refine ⟨by show 0 < 1; omega, by show 1 ≤ 1; omega, by show 1 ≤ 3; omega, fun t _ => hup, fun t _ i hi => hB.lt _ (gd i hi), fun t _ i hi => hB.sc _ (gd i hi), fun t _ => hB.len, fun t => rfl, by show 1 ≤ 2; omega, hn, hba, hli, fun t u ht hu hne => ?_, fun t u _ _ => Ne.symm hdl.2.1, fun t u _ _ => Ne.symm hfl.2.1, ?_, fun u _ => ⟨hdl.2.2, hfl.2.2⟩⟩
    · have ht : t < 1 := ht
      have hu : u < 1 := hu
      omega
    · rintro ⟨u, _, e⟩
      have e : w1.heap.size + 1 = w1.heap.size := e
      omega
  have hoff : offd (oneCx w1.heap.size db fb da fa l dc fc (w1.heap.size + 1) base limit n) n = mts base l :=
    offd_one (X := oneCx w1.heap.size db fb da fa l dc fc (w1.heap.size + 1) base limit n) rfl rfl rfl l rfl (fun i _ => rfl) (fun i _ => rfl) hup (fun i hi => hB.lt _ (gd i hi)) hn
  have hseg := segment_single (oneCx w1.heap.size db fb da fa l dc fc (w1.heap.size + 1) base limit n) hSem rfl rfl W3 hC3 (fun u _ => ⟨-1, hS3, Or.inl rfl⟩) (fun u _ => by rw [s3]; exact ⟨hdl.1, hfl.1⟩)
  have e3 : W2.alloc (.cells #[.int .i64 limit, .slice none 0 0, .int .i64 0, .bool false, .bool false, .float .f64 4427038433705197568] 37) = W3 := hW3.symm
  rw [e3]
  refine hseg.mono ?_
  rintro e w' ⟨rfl, v, h, B, hc, hk, hs, hf⟩
  have hc' : Coll (w1.heap.size + 1) limit v h (offd (oneCx w1.heap.size db fb da fa l dc fc (w1.heap.size + 1) base limit n) n).length B w' := hc
  have hk' : Kept limit (offd (oneCx w1.heap.size db fb da fa l dc fc (w1.heap.size + 1) base limit n) n) h := hk
  rw [hoff] at hc' hk'
  have hlen : (mts base l).length = l.length := by simp [mts]
  rw [hlen] at hc'
  refine ⟨rfl, v, h, B, hc', hk', hs, ?_⟩
  have g13 := g2.trans g3
  refine ⟨hf.os.trans g13.os, hf.tape.trans g13.tape, hf.output.trans g13.output, Nat.le_trans g13.size hf.size, fun k hk _ => (hf.block k (by omega) ?_).trans (g13.block k hk (by simp))⟩
  rintro (e | ⟨u, _, e⟩)
  · have e : k = w1.heap.size + 1 := e; omega
  · have e : k = w1.heap.size := e; omega

set_option maxHeartbeats 1000000 in
set_option maxRecDepth 100000 in
theorem single_any (ad : Option Addr) (b o k cap : Nat) (P Q : Nat → Nat) (n16 b16 lim : Nat) (w : World) (H : Hits ad b o k P Q w) (hn16 : n16 < 65536) (hb16 : b16 < 65536) (hlim : lim < 256) (hk : k ≤ 1024) :
    Calls Yba.prog 3 #[.slice ad k cap, .int .u16 n16, .int .u16 b16, .int .u8 lim] w fun e w' => e = .returned (.bool true) ∧ Below w.heap.size w w' := by
  obtain ⟨i0, z0, hi0, hz0, hz1, hz2, hz3⟩ := info_parts40
  have HI : Hid (Hits ad b o k P Q w) := H
  have hki : ¬ (1024 : Int) < (k : Int) := by omega
  obtain ⟨n, hn⟩ : ∃ n : Nat, 1 + (n16 : Int) % 1024 = (n : Int) := ⟨1 + n16 % 1024, by omega⟩
  obtain ⟨limit, hlimit⟩ : ∃ l : Nat, 1 + (lim : Int) % 12 = (l : Int) := ⟨1 + lim % 12, by omega⟩
  have hnb : 1 ≤ n ∧ n ≤ 1024 := by omega
  have hlb : 1 ≤ limit ∧ limit ≤ 12 := by omega
  clear H
  go_enter Yba.func3, Yba.ntmps3
  go_wp2_with (first
    | (go_at_call 5; refine (build_any ad b o k cap n P Q w HI.out hk (by omega) hnb.2).mono ?_; rintro z w1 ⟨vd, vs, l, rfl, hB, hg1⟩; have HB : Hid (Built w.heap.size vd vs l n w1 ∧ w.grownBy w1 none) := ⟨hB, hg1⟩; clear hB hg1; obtain ⟨da, db, dc, e1, d1, d2, d3⟩ := own_parts HB.out.1.d (w1.heap.size + 2); obtain ⟨fa, fb, fc, e2, s1, s2, s3⟩ := own_parts HB.out.1.s (w1.heap.size + 2); subst e1; subst e2; have HD : Hid ((0 < l.length → da = some ⟨db, 0, none⟩ ∧ (Value.slice da l.length dc).ownBlock = some db ∧ db < w1.heap.size) ∧ (l.length = 0 → db = w1.heap.size + 2) ∧ ∀ j u, (l.map fun x => Value.int .i64 (x.1 : Int))[j]? = some u → w1.cell? ⟨db, j, none⟩ = some u) := ⟨d1, d2, d3⟩; have HS : Hid ((0 < l.length → fa = some ⟨fb, 0, none⟩ ∧ (Value.slice fa l.length fc).ownBlock = some fb ∧ fb < w1.heap.size) ∧ (l.length = 0 → fb = w1.heap.size + 2) ∧ ∀ j u, (l.map fun x => Value.float .f64 (fl x.2))[j]? = some u → w1.cell? ⟨fb, j, none⟩ = some u) := ⟨s1, s2, s3⟩; clear d1 d2 d3 s1 s2 s3)
    | (go_at_call 6; refine (seg_one HB.out.1 HD.out HS.out hnb.2 hb16 hlb).mono ?_; rintro z w4 ⟨rfl, v, h, B, hc4, hk4, hs4, hg4⟩; have HC : Hid (Coll (w1.heap.size + 1) limit v h l.length B w4 ∧ Kept limit (mts b16 l) h ∧ Small h ∧ w1.grownBy w4 none) := ⟨hc4, hk4, hs4, hg4⟩; clear hc4 hk4 hs4 hg4; have hl1024 := HB.out.1.len; obtain ⟨W5, hmk, hown5, hg5⟩ := run_make_own (P := Yba.prog) w4 w4.heap.size 32 40 i0 z0 2 Yba.underlying32 hi0 hz0 hz1 .i64 .i64 l.length (by rw [hz2]; omega) (by unfold maxLen; omega) (Nat.le_refl _); have HO5 : Hid (OwnM w4.heap.size (.slice (some ⟨w4.heap.size, 0, none⟩) 0 l.length) #[] W5 ∧ w4.grownBy W5 none) := ⟨hown5, hg5⟩; clear hown5 hg5))
  go_loopw [16, 57] (fun cv vi wr => ∃ (i g c : Nat), cv = .slice (some ⟨g, 0, none⟩) i c ∧ vi = .int .i64 i ∧ i ≤ l.length ∧ OwnM w4.heap.size (.slice (some ⟨g, 0, none⟩) i c) (mts b16 (l.take i)).toArray wr ∧ w4.grownBy wr none) (fun _ vi _ => l.length - (intOf vi).toNat)
  case atStart => exact ⟨0, _, _, rfl, rfl, Nat.zero_le _, HO5.out.1, HO5.out.2⟩
  case round =>
    clear hmk HO5
    obtain ⟨i, g, c, rfl, rfl, hi, hO, hG⟩ := hrel
    have HO : Hid (OwnM w4.heap.size (.slice (some ⟨g, 0, none⟩) i c) (mts b16 (l.take i)).toArray wr ∧ w4.grownBy wr none) := ⟨hO, hG⟩
    clear hO hG
    by_cases hil : i < l.length
    · have hii : (i : Int) < (l.length : Int) := by omega
      obtain ⟨x, hx⟩ : ∃ x, x = l[i] := ⟨_, rfl⟩
      have hda := (HD.out.1 (by omega)).1
      have hfa := (HS.out.1 (by omega)).1
      have gW := HC.out.2.2.2.trans HO.out.2
      have c0 := gW.cell (HD.out.2.2 i (.int .i64 ((l[i]).1 : Int)) (by simp [hil])) (by simp)
      have c1 := gW.cell (HS.out.2.2 i (.float .f64 (fl (l[i]).2)) (by simp [hil])) (by simp)
      rw [← hx] at c0 c1
      have hxb : x.1 < n := by rw [hx]; exact HB.out.1.lt _ (by simp)
      have hsz : ((mts b16 (l.take i)).toArray).size = i := by simp [mts]; omega
      have hw4 := HO.out.2.size
      have hml : i + 1 ≤ maxLen := by unfold maxLen; omega
      have HXX : Hid (x = l[i]) := hx
      clear hx gW
      rw [hda, hfa]
      go_wp2_with (at_builtin; refine wpList_append_lies _ (by rfl) (.tmp 62) (.tmp 71) 32 (by rfl) w4.heap.size 40 i0 z0 2 16 Yba.underlying32 hi0 hz0 hz1 hz2 hz3 (by omega) (.slice (some ⟨g, 0, none⟩) i c) i (flat (mts b16 (l.take i))) (by rfl) (World.ownsRow.kept (own_len HO.out.1 hsz) (World.grownBy_alloc _ _ none) (Classical.em _)) ⟨wr.heap.size, 0, none⟩ 1 1 [.int .i64 ((b16 : Int) + (x.1 : Int)), .float .f64 (fl x.2)] (by rfl) (by rfl) (World.news_of_block (cs := #[.int .i64 ((b16 : Int) + (x.1 : Int)), .float .f64 (fl x.2)]) (t := 40) (fr := (0, 0)) (heap_alloc_new _ _)) (by simp [Value.oneCell']) (by omega) hml (by omega) (by simp; omega) (wr.heap.size + 1) (by simp) ?_; intro g5 c5 w5 hown5 hgrow5 hat5 hlt5; have HO6 : Hid (w5.ownsRow w4.heap.size 40 2 (.slice (some ⟨g5, 0, none⟩) (i + 1) c5) (i + 1) (flat (mts b16 (l.take i)) ++ [.int .i64 ((b16 : Int) + (x.1 : Int)), .float .f64 (fl x.2)]) ∧ w4.grownBy w5 none) := ⟨hown5, grown_rows (HO.out.2.trans (World.grownBy_alloc _ _ none)) hgrow5 (fun k e => by injection e with e; subst e; exact HO.out.1.rowS.1)⟩; clear hown5 hgrow5 hat5 hlt5)
      go_roundw
      case measure => simp [intOf]; omega
      case rel =>
        refine ⟨i + 1, g5, c5, rfl, rfl, by omega, ?_, HO6.out.2⟩
        have e : mts b16 (l.take (i + 1)) = mts b16 (l.take i) ++ [((b16 : Int) + (x.1 : Int), x.2)] := by
          rw [List.take_add_one, List.getElem?_eq_getElem hil, ← HXX.out]; simp [mts]
        unfold OwnM
        rw [e]
        have e2 : ((mts b16 (l.take i) ++ [((b16 : Int) + (x.1 : Int), x.2)]).toArray).size = i + 1 := by simp [mts]; omega
        rw [e2, List.toList_toArray, flat_append]
        exact HO6.out.1
    · have hii : ¬ (i : Int) < (l.length : Int) := by omega
      obtain rfl : i = l.length := by omega
      have HCr : Hid (Coll (w1.heap.size + 1) limit v h l.length B wr) := HC.out.1.kept HO.out.2 (by simp) (by simp)
      have x2 := HCr.out.c2
      have x4 := HCr.out.c4
      have hlen : (mts b16 l).length = l.length := by simp [mts]
      have hmin : min l.length limit = h.size := by have := kept_size HC.out.2.1; rw [hlen] at this; exact this
      have hO := HO.out.1
      rw [List.take_length] at hO
      have HOm : Hid (OwnM w4.heap.size (.slice (some ⟨g, 0, none⟩) l.length c) (mts b16 l).toArray wr) := hO
      have hcap : l.length ≤ c := by
        rcases hO.2 with ⟨q, _⟩ | ⟨g', c', cur, q, r1, r2, r3, r⟩
        · cases q
        · injection q with q1 q2 q3; simp at r3; omega
      have HSC : Hid (∀ t, t < (mts b16 l).toArray.size → (mts b16 l).toArray[t]!.2 < 1024) := fun t ht => by
        have ht' : t < l.length := by simpa [mts] using ht
        have e : (mts b16 l).toArray[t]! = ((b16 : Int) + ((l[t]).1 : Int), (l[t]).2) := by rw [getElem!_pos _ t ht]; simp [mts]
        rw [e]
        have := (HB.out.1.sc l[t] (by simp)).2
        show (l[t]).2 < 1024
        omega
      have HK : Hid (Kept limit ((mts b16 l).toArray).toList h) := HC.out.2.1
      have hle := HC.out.2.1.le
      have hml : h.size ≤ l.length := by omega
      clear hO
      go_wp2_with (first
        | (go_at_call 8; refine (top_any g c l.length limit (mts b16 l).toArray wr (by simp [mts]) HOm.out.rowS.2 HSC.out hl1024 hcap hlb.2).mono ?_; rintro z w6 ⟨A, k6, rfl, hP6, hS6, hR6, hG6⟩; rw [hmin]; have H6 : Hid (PermIn 0 l.length (mts b16 l).toArray A ∧ SortedIn ltTop 0 l.length A ∧ RowM g A w6 ∧ w4.grownBy w6 none) := ⟨hP6, hS6, hR6, grown_rows HO.out.2 hG6 (fun k e => by injection e with e; subst e; exact HOm.out.rowS.1)⟩; clear hP6 hS6 hR6 hG6)
        | (go_at_call 7; refine (same_any (w1.heap.size + 1) limit v h l.length B w6 (HC.out.1.kept H6.out.2.2.2 (by simp) (by simp)) (by omega) HC.out.2.2.1 (some ⟨g, 0, none⟩) g k6 A (fun _ => ⟨rfl, H6.out.2.2.1⟩) (by have := H6.out.1.1; simp [mts] at this; omega) (kept_same HK.out (by have := H6.out.1; simpa [mts] using this) (by have := H6.out.2.1; simpa [mts] using this))).mono ?_; rintro z w7 ⟨rfl, hg7⟩))
      go_ret
      have gA := ((HB.out.2.trans HC.out.2.2.2).trans H6.out.2.2.2).trans hg7
      exact ⟨rfl, ⟨gA.os, gA.tape, gA.output, gA.size, fun k hk => gA.block k hk (by simp)⟩⟩
end Go.Proofs.Ybulkchng
