/-
  'Rows.LawS4178BMovesSaid', proved.
-/
import Derived.Test.YbulkchmsLawB
import Derived.Test.YbulkchmsRows
import Derived.ProofKit
import Derived.OpenShut
import Derived.Deep.Slices
namespace Go.Proofs.Ybulkchms.lawS4178BMoves
open Go.ChangeShapes Go.WideShapes Go.ChangeAt Go.RowKit
set_option linter.unusedVariables false

theorem own : ownKnob Yba.prog.godebug = none := by kernel_rfl
theorem laidOut : laidOutB Yba.prog = true := by kernel_rfl
theorem cells60 : Yba.prog.cellsOf 60 = 4 := by kernel_rfl
theorem cells5 : Yba.prog.cellsOf 5 = 1 := by kernel_rfl
theorem cells58 : Yba.prog.cellsOf 58 = 1 := by kernel_rfl

theorem byte_of_wf {x : Int} (h : (Lit.int .u8 x).wf = true) : 0 ≤ x ∧ x < 256 := by
  simp [Lit.wf, IntKind.min, IntKind.max, IntKind.signed, IntKind.bits] at h
  omega

set_option maxRecDepth 100000 in
/-- Too many entries. -/
theorem walk_many (ad : Option Addr) (n cn : Nat) (fr to : Int) (w : World) (hn : 1024 < n) :
    Calls Yba.prog 4 #[.slice ad n cn, .int .u8 fr, .int .u8 to] w fun e w' => e = .returned (.bool true) ∧ Below w.heap.size w w' := by
  have h2 : (1024 : Int) < (n : Int) := by omega
  go_enter Yba.func4, Yba.ntmps4
  go_wp2_with fail
  go_ret
  exact ⟨rfl, Below.refl _ _⟩

theorem plain_addr {w : World} {x : Addr} {v : Value} (h : w.cell? (x.add 0) = some v) : ∃ b o, x = ⟨b, o, none⟩ ∧ b < w.heap.size := by
  obtain ⟨b, o, spot⟩ := x
  have hspot : spot = none := by simpa [Addr.add] using World.cell?_spot h
  subst hspot
  refine ⟨b, o, rfl, ?_⟩
  have := World.block_lt_of_cell? w _ h
  simpa [add_plain] using this

/-- One entry, opened. -/
theorem open_entry {H : Type} {enc : TypeId × Value → H} {W : World} {base : Nat} {sp : Nat → Bool} {held : Bool} {fuel : Nat} {a : Addr} {cs : List Value} {x : DataW H × List MemPlace} (hc : W.cells? base a 4 = some cs)
    (h : DataW.trod enc Yba.prog W base sp held fuel 60 cs = some x) :
    ∃ e : Nat → Int, W.cell? (a.add 0) = some (.int .u8 (e 0)) ∧ W.cell? (a.add 1) = some (.int .u8 (e 1)) ∧ W.cell? (a.add 2) = some (.int .u64 (e 2)) ∧ W.cell? (a.add 3) = some (.int .u64 (e 3)) ∧ (0 ≤ e 0 ∧ e 0 < 256) ∧ 0 ≤ e 1 ∧ e 1 < 256 := by
  obtain ⟨_, hlen, hcell⟩ := World.cells?_some hc
  obtain ⟨xs, n, _, _, _, hxl, hf⟩ := DataW.trod_struct Yba.underlying60 h
  match xs, hxl, cs, hlen with
  | [y0, y1, y2, y3], _, [v0, v1, v2, v3], _ =>
    have g0 := hf 0 _ rfl
    have g1 := hf 1 _ rfl
    have g2 := hf 2 _ rfl
    have g3 := hf 3 _ rfl
    simp [cells5, cells58] at g0 g1 g2 g3
    obtain ⟨n0, h0, _, w0⟩ := DataW.trod_int Yba.underlying5 g0
    obtain ⟨n1, h1, _, w1⟩ := DataW.trod_int Yba.underlying5 g1
    obtain ⟨n2, h2, _, w2⟩ := DataW.trod_int Yba.underlying58 g2
    obtain ⟨n3, h3, _, w3⟩ := DataW.trod_int Yba.underlying58 g3
    simp at h0 h1 h2 h3
    subst h0; subst h1; subst h2; subst h3
    exact ⟨fun i => match i with | 0 => n0 | 1 => n1 | 2 => n2 | _ => n3, by simpa using hcell 0 (by omega), by simpa using hcell 1 (by omega), by simpa using hcell 2 (by omega), by simpa using hcell 3 (by omega), byte_of_wf w0, byte_of_wf w1⟩

theorem open_ents {H : Type} {enc : TypeId × Value → H} {W : World} {base : Nat} {sp : Nat → Bool} {held : Bool} {fuel : Nat} {ad : Option Addr} {n cn : Nat} {x : DataW H × List MemPlace}
    (h : DataW.trod enc Yba.prog W base sp held fuel 37 [.slice ad n cn] = some x) : ∃ be oe E, Ents ad be oe n E W := by
  rcases Deep.open_slice Yba.underlying37 h with ⟨h0, _⟩ | ⟨a, len, cap, m, k, D, Pl, hcs, hb, hl, hm, hmm, _, hx⟩
  · simp at h0
    obtain ⟨rfl, rfl, rfl⟩ := h0
    exact ⟨0, 0, fun _ _ => 0, fun h => by omega, fun h => by omega, fun k h => by omega, fun k h => by omega, fun k h => by omega, fun k h => by omega, fun k => ⟨by omega, by omega⟩, fun k => ⟨by omega, by omega⟩⟩
  · simp at hcs
    obtain ⟨rfl, rfl, rfl⟩ := hcs
    have hlm : n ≤ m := by rw [hmm]; split <;> omega
    have key : ∀ i, ∃ e : Nat → Int, (i < n → W.cell? (a.add (i * 4)) = some (.int .u8 (e 0)) ∧ W.cell? (a.add (i * 4 + 1)) = some (.int .u8 (e 1)) ∧ W.cell? (a.add (i * 4 + 2)) = some (.int .u64 (e 2)) ∧ W.cell? (a.add (i * 4 + 3)) = some (.int .u64 (e 3))) ∧ (0 ≤ e 0 ∧ e 0 < 256) ∧ 0 ≤ e 1 ∧ e 1 < 256 := fun i => by
      by_cases hi : i < n
      · obtain ⟨cs', h1, h2⟩ := hx i (by omega)
        rw [cells60] at h1
        obtain ⟨e, q0, q1, q2, q3, q4⟩ := open_entry h1 h2
        rw [Deep.add_add] at q0 q1 q2 q3
        exact ⟨e, fun _ => ⟨q0, q1, q2, q3⟩, q4⟩
      · exact ⟨fun _ => 0, fun h => absurd h hi, ⟨by decide, by decide⟩, by decide, by decide⟩
    by_cases hn : n = 0
    · subst hn
      exact ⟨0, 0, fun _ _ => 0, fun h => by omega, fun h => by omega, fun k h => by omega, fun k h => by omega, fun k h => by omega, fun k h => by omega, fun k => ⟨by omega, by omega⟩, fun k => ⟨by omega, by omega⟩⟩
    · obtain ⟨E, hE⟩ : ∃ E : Nat → Nat → Int, ∀ i, (i < n → W.cell? (a.add (i * 4)) = some (.int .u8 (E i 0)) ∧ W.cell? (a.add (i * 4 + 1)) = some (.int .u8 (E i 1)) ∧ W.cell? (a.add (i * 4 + 2)) = some (.int .u64 (E i 2)) ∧ W.cell? (a.add (i * 4 + 3)) = some (.int .u64 (E i 3))) ∧ (0 ≤ E i 0 ∧ E i 0 < 256) ∧ 0 ≤ E i 1 ∧ E i 1 < 256 :=
        ⟨fun i => Classical.choose (key i), fun i => Classical.choose_spec (key i)⟩
      have q0 := (hE 0).1 (by omega)
      obtain ⟨b, o, rfl, hbl⟩ := plain_addr (by simpa using q0.1)
      refine ⟨b, o, E, fun _ => rfl, fun _ => hbl, fun i hi => ?_, fun i hi => ?_, fun i hi => ?_, fun i hi => ?_, fun i => (hE i).2.1, fun i => (hE i).2.2⟩
      · have := ((hE i).1 hi).1; rwa [add_plain] at this
      · have := ((hE i).1 hi).2.1; rwa [add_plain] at this
      · have := ((hE i).1 hi).2.2.1; rwa [add_plain] at this
      · have := ((hE i).1 hi).2.2.2; rwa [add_plain] at this

theorem walk (ad : Option Addr) (be oe n cn : Nat) (E : Nat → Nat → Int) (fr to : Int) (w : World) (HE : Ents ad be oe n E w) (hf : 0 ≤ fr ∧ fr < 256) (ht : 0 ≤ to ∧ to < 256) :
    Calls Yba.prog 4 #[.slice ad n cn, .int .u8 fr, .int .u8 to] w fun e w' => e = .returned (.bool true) ∧ Below w.heap.size w w' := by
  by_cases h1 : 1024 < n
  · exact walk_many _ _ _ _ _ w h1
  · exact lawB ad be oe n cn fr to w (by omega) E HE hf.1 hf.2 ht.1 ht.2

set_option maxRecDepth 100000 in
theorem lifted (os : Os) (started : os.Started) (H : Type) (enc : TypeId × Value → H) :
    ReturnsInHanded {} Yba.checked os 4 .any (Rows.lawS4178BMovesSpec.pre6 enc Yba.prog Yba.f4 Rows.lawS4178BMovesRow.domain false) (Rows.lawS4178BMovesSpec.post enc Yba.prog Yba.f4 false true false false) := by
  refine returnsInHanded_of_change (C := Yba.checked) own started (by kernel_rfl) Yba.func4
    (ChangeSpec.witness6 (enc := enc) (C := Yba.checked) false ⟨#[], #[.slice none 0 0, .int .u8 0, .int .u8 0], []⟩ 8 (by kernel_rfl) (by kernel_rfl) (by kernel_rfl) (by kernel_rfl)) ?_
  intro W base args ds gs before hval0 hW hcnd _
  have hval : ∀ (j : Nat) t v, Yba.f4.params[j]? = some t → args[j]? = some v → Value.okWide Yba.prog W .any base t v := hval0
  have hW' := hW
  obtain ⟨p, q, hA0, hV, rfl, hfz, hnd⟩ := hW
  have hA : DataW.TrodAll enc Yba.prog W 0 (fun _ => true) true Yba.f4.params.toList args.toList ds p := hA0
  rw [Yba.params4] at hA hval
  obtain ⟨v0, vs0, d0, ds0, p0, q0, hargs, rfl, rfl, h0, r0⟩ := trodAll_cons hA
  obtain ⟨v1, vs1, d1, ds1, p1, q1, rfl, rfl, rfl, h1, r1⟩ := trodAll_cons r0
  obtain ⟨v2, vs2, d2, ds2, p2, q2, rfl, rfl, rfl, h2, r2⟩ := trodAll_cons r1
  obtain ⟨rfl, rfl, rfl⟩ := trodAll_nil r2
  obtain rfl : args = #[v0, v1, v2] := by cases args; simp_all
  obtain ⟨rfl, rfl⟩ := trodVars_none hV
  obtain ⟨a0, len0, cap0, rfl⟩ := okWide_slice Yba.underlying37 (hval 0 37 v0 rfl rfl)
  have k0 := h0
  have lt0 : ∀ x ∈ p0, x.block < W.heap.size := by obtain ⟨m, hm⟩ := k0; exact DataW.trod_lt m _ _ _ hm
  have k1 := h1
  have lt1 : ∀ x ∈ p1, x.block < W.heap.size := by obtain ⟨m, hm⟩ := k1; exact DataW.trod_lt m _ _ _ hm
  have k2 := h2
  have lt2 : ∀ x ∈ p2, x.block < W.heap.size := by obtain ⟨m, hm⟩ := k2; exact DataW.trod_lt m _ _ _ hm
  obtain ⟨n1, rfl, _, _, wf1⟩ := open_int Yba.underlying5 (hval 1 5 v1 rfl rfl) h1
  obtain ⟨n2, rfl, _, _, wf2⟩ := open_int Yba.underlying5 (hval 2 5 v2 rfl rfl) h2
  obtain ⟨be, oe, E, HE⟩ : ∃ be oe E, Ents a0 be oe len0 E W := by
    obtain ⟨fuel, hf⟩ := h0
    exact open_ents hf
  clear hA0 hval0
  refine (walk a0 be oe len0 cap0 E n1 n2 W HE (byte_of_wf wf1) (byte_of_wf wf2)).mono fun e W' ⟨he, bel⟩ => ?_
  subst he
  exact ⟨_, rfl, _, _, _, [], _, [], hW', trodAll_mk1 (shut_bool Yba.underlying4 _), (trodAll_cons_mk (Below.trod laidOut (by kernel_rfl) (of_decide_eq_true (by kernel_rfl)) k0 bel lt0) (trodAll_cons_mk (Below.trod laidOut (by kernel_rfl) (of_decide_eq_true (by kernel_rfl)) k1 bel lt1) (trodAll_cons_mk (Below.trod laidOut (by kernel_rfl) (of_decide_eq_true (by kernel_rfl)) k2 bel lt2) trodAll_mk0))), rfl, bel.frame _, fun h => by cases h⟩

theorem over : Rows.lawS4178BMovesRow.holds Yba.pinned (OpenSpec.ofChange Rows.lawS4178BMovesSpec) :=
  OpenClaim.holds_of_wide 4 Yba.f4 rfl rfl rfl rfl rfl rfl rfl ⟨rfl, rfl, rfl, rfl, rfl⟩ rfl rfl rfl rfl rfl (by kernel_rfl) Yba.func4 (by kernel_rfl)
    (of_decide_eq_true (by kernel_rfl)) (by unfold Func.isWrapper; first | (rw [if_pos (by decide +kernel)]; kernel_rfl) | (rw [if_neg (by decide +kernel)]; exact ⟨rfl, rfl⟩))
    (fun os started H enc _ => lifted os started H enc)

theorem proved : Rows.LawS4178BMovesSaid := over
#print axioms proved
end Go.Proofs.Ybulkchms.lawS4178BMoves
