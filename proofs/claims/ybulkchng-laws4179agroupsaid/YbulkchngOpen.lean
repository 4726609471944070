/-
  The drawn hits, opened.
-/
import Derived.Test.YbulkchngOne
import Derived.ProofKit
import Derived.OpenShut
import Derived.Deep.Slices
namespace Go.Proofs.Ybulkchng
open Go.ChangeShapes Go.WideShapes Go.ChangeAt Go.RowKit
set_option linter.unusedVariables false

theorem own : ownKnob Yba.prog.godebug = none := by kernel_rfl
theorem laidOut : laidOutB Yba.prog = true := by kernel_rfl
theorem cells56 : Yba.prog.cellsOf 56 = 2 := by kernel_rfl
theorem cells23 : Yba.prog.cellsOf 23 = 1 := by kernel_rfl
theorem cells5 : Yba.prog.cellsOf 5 = 1 := by kernel_rfl

theorem byte_of_wf {x : Int} (h : (Lit.int .u8 x).wf = true) : 0 ≤ x ∧ x < 256 := by
  simp [Lit.wf, IntKind.min, IntKind.max, IntKind.signed, IntKind.bits] at h
  omega
theorem half_of_wf {x : Int} (h : (Lit.int .u16 x).wf = true) : 0 ≤ x ∧ x < 65536 := by
  simp [Lit.wf, IntKind.min, IntKind.max, IntKind.signed, IntKind.bits] at h
  omega

theorem plain_addr {w : World} {x : Addr} {v : Value} (h : w.cell? (x.add 0) = some v) : ∃ b o, x = ⟨b, o, none⟩ ∧ b < w.heap.size := by
  obtain ⟨b, o, spot⟩ := x
  have hspot : spot = none := by simpa [Addr.add] using World.cell?_spot h
  subst hspot
  refine ⟨b, o, rfl, ?_⟩
  have := World.block_lt_of_cell? w _ h
  simpa [add_plain] using this

/-- One hit, opened. -/
theorem open_hit {H : Type} {enc : TypeId × Value → H} {W : World} {base : Nat} {sp : Nat → Bool} {held : Bool} {fuel : Nat} {a : Addr} {cs : List Value} {x : DataW H × List MemPlace} (hc : W.cells? base a 2 = some cs)
    (h : DataW.trod enc Yba.prog W base sp held fuel 56 cs = some x) :
    ∃ p q : Nat, W.cell? (a.add 0) = some (.int .u16 (p : Int)) ∧ W.cell? (a.add 1) = some (.int .u8 (q : Int)) ∧ p < 65536 ∧ q < 256 := by
  obtain ⟨_, hlen, hcell⟩ := World.cells?_some hc
  obtain ⟨xs, n, _, _, _, hxl, hf⟩ := DataW.trod_struct Yba.underlying56 h
  match xs, hxl, cs, hlen with
  | [y0, y1], _, [v0, v1], _ =>
    have g0 := hf 0 _ rfl
    have g1 := hf 1 _ rfl
    simp [cells5, cells23] at g0 g1
    obtain ⟨n0, h0, _, w0⟩ := DataW.trod_int Yba.underlying23 g0
    obtain ⟨n1, h1, _, w1⟩ := DataW.trod_int Yba.underlying5 g1
    simp at h0 h1
    subst h0; subst h1
    have b0 := half_of_wf w0
    have b1 := byte_of_wf w1
    refine ⟨n0.toNat, n1.toNat, ?_, ?_, by omega, by omega⟩
    · rw [Int.toNat_of_nonneg b0.1]; simpa using hcell 0 (by omega)
    · rw [Int.toNat_of_nonneg b1.1]; simpa using hcell 1 (by omega)

theorem open_hits {H : Type} {enc : TypeId × Value → H} {W : World} {base : Nat} {sp : Nat → Bool} {held : Bool} {fuel : Nat} {ad : Option Addr} {n cn : Nat} {x : DataW H × List MemPlace}
    (h : DataW.trod enc Yba.prog W base sp held fuel 22 [.slice ad n cn] = some x) : ∃ b o P Q, Hits ad b o n P Q W := by
  rcases Deep.open_slice Yba.underlying22 h with ⟨h0, _⟩ | ⟨a, len, cap, m, k, D, Pl, hcs, hb, hl, hm, hmm, _, hx⟩
  · simp at h0
    obtain ⟨rfl, rfl, rfl⟩ := h0
    exact ⟨0, 0, fun _ => 0, fun _ => 0, fun h => by omega, fun k h => by omega, fun k h => by omega, fun k => by omega, fun k => by omega⟩
  · simp at hcs
    obtain ⟨rfl, rfl, rfl⟩ := hcs
    have hlm : n ≤ m := by rw [hmm]; split <;> omega
    have key : ∀ i, ∃ e : Nat × Nat, (i < n → W.cell? (a.add (i * 2)) = some (.int .u16 (e.1 : Int)) ∧ W.cell? (a.add (i * 2 + 1)) = some (.int .u8 (e.2 : Int))) ∧ e.1 < 65536 ∧ e.2 < 256 := fun i => by
      by_cases hi : i < n
      · obtain ⟨cs', h1, h2⟩ := hx i (by omega)
        rw [cells56] at h1
        obtain ⟨p, q, q0, q1, q2, q3⟩ := open_hit h1 h2
        rw [Deep.add_add] at q0 q1
        exact ⟨(p, q), fun _ => ⟨q0, q1⟩, q2, q3⟩
      · exact ⟨(0, 0), fun h => absurd h hi, by decide, by decide⟩
    by_cases hn : n = 0
    · subst hn
      exact ⟨0, 0, fun _ => 0, fun _ => 0, fun h => by omega, fun k h => by omega, fun k h => by omega, fun k => by omega, fun k => by omega⟩
    · obtain ⟨E, hE⟩ : ∃ E : Nat → Nat × Nat, ∀ i, (i < n → W.cell? (a.add (i * 2)) = some (.int .u16 ((E i).1 : Int)) ∧ W.cell? (a.add (i * 2 + 1)) = some (.int .u8 ((E i).2 : Int))) ∧ (E i).1 < 65536 ∧ (E i).2 < 256 :=
        ⟨fun i => Classical.choose (key i), fun i => Classical.choose_spec (key i)⟩
      have q0 := (hE 0).1 (by omega)
      obtain ⟨b, o, rfl, hbl⟩ := plain_addr (by simpa using q0.1)
      refine ⟨b, o, fun i => (E i).1, fun i => (E i).2, fun _ => rfl, fun i hi => ?_, fun i hi => ?_, fun i => (hE i).2.1, fun i => (hE i).2.2⟩
      · have := ((hE i).1 hi).1; rwa [add_plain] at this
      · have := ((hE i).1 hi).2; rwa [add_plain, ← Nat.add_assoc] at this
end Go.Proofs.Ybulkchng
