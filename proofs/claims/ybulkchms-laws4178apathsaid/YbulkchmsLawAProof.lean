/-
  'Rows.LawS4178APathSaid', proved.
-/
import Derived.Test.YbulkchmsLawA
import Derived.ProofKit
import Derived.OpenShut
import Derived.SliceStrings
namespace Go.Proofs.Ybulkchms.lawS4178APath
open Go.ChangeShapes Go.WideShapes Go.ChangeAt Go.RowKit
set_option linter.unusedVariables false

theorem own : ownKnob Yba.prog.godebug = none := by kernel_rfl
theorem laidOut : laidOutB Yba.prog = true := by kernel_rfl

/-- A slice of bytes that came in. -/
def IsRow (w : World) (a : Option Addr) (len cap : Nat) (zs : List Int) : Prop :=
  (a = none ∧ len = 0 ∧ cap = 0 ∧ zs = []) ∨
  ∃ x, a = some x ∧ len ≤ cap ∧ zs.length = cap ∧ (∀ i, i < zs.length → w.cell? (x.add i) = some (.int .u8 (zs.getD i 0))) ∧ ∀ n ∈ zs, (Lit.int .u8 n).wf = true
/-- A slice of strings that came in. -/
def IsStrs (w : World) (a : Option Addr) (len cap : Nat) (ss : List ByteArray) : Prop :=
  (a = none ∧ len = 0 ∧ cap = 0 ∧ ss = []) ∨
  ∃ x, a = some x ∧ len ≤ cap ∧ ss.length = cap ∧ ∀ i, i < ss.length → w.cell? (x.add i) = some (.string (ss.getD i ByteArray.empty))

theorem byte_of_wf {x : Int} (h : (Lit.int .u8 x).wf = true) : 0 ≤ x ∧ x < 256 := by
  simp [Lit.wf, IntKind.min, IntKind.max, IntKind.signed, IntKind.bits] at h
  omega

/-- No names, or too many. -/
theorem walk_none (a0 a1 : Option Addr) (cn kl kc : Nat) (w : World) :
    Calls Yba.prog 3 #[.slice a0 0 cn, .slice a1 kl kc] w fun e w' => e = .returned (.bool true) ∧ Below w.heap.size w w' := by
  go_enter Yba.func3, Yba.ntmps3
  go_wp2_with fail
  go_ret
  exact ⟨rfl, Below.refl _ _⟩
theorem walk_many (a0 a1 : Option Addr) (n cn kl kc : Nat) (w : World) (hn : 1024 < n) :
    Calls Yba.prog 3 #[.slice a0 n cn, .slice a1 kl kc] w fun e w' => e = .returned (.bool true) ∧ Below w.heap.size w w' := by
  have h1 : ((n : Int) == 0) = false := by simp; omega
  have h2 : (1024 : Int) < (n : Int) := by omega
  go_enter Yba.func3, Yba.ntmps3
  go_wp2_with fail
  go_ret
  exact ⟨rfl, Below.refl _ _⟩

theorem plain_addr {w : World} {x : Addr} {v : Value} (h : w.cell? (x.add 0) = some v) : ∃ b o, x = ⟨b, o, none⟩ ∧ b < w.heap.size := by
  obtain ⟨b, o, spot⟩ := x
  have hspot : spot = none := by simpa [Addr.add] using World.cell?_spot h
  subst hspot
  refine ⟨b, o, rfl, ?_⟩
  have := World.block_lt_of_cell? w _ h
  simpa [add_plain] using this

theorem walk (a0 : Option Addr) (n cn : Nat) (ss : List ByteArray) (a1 : Option Addr) (kl kc : Nat) (zs : List Int) (w : World) (w0 : IsStrs w a0 n cn ss) (w1 : IsRow w a1 kl kc zs) :
    Calls Yba.prog 3 #[.slice a0 n cn, .slice a1 kl kc] w fun e w' => e = .returned (.bool true) ∧ Below w.heap.size w w' := by
  by_cases h0 : n = 0
  · subst h0; exact walk_none _ _ _ _ _ w
  by_cases h1 : 1024 < n
  · exact walk_many _ _ _ _ _ _ w h1
  rcases w0 with ⟨_, h, _⟩ | ⟨x, rfl, hl, hlen, hc⟩
  · exact absurd h h0
  obtain ⟨b, o, rfl, hb⟩ := plain_addr (hc 0 (by omega))
  have key : ∃ bk ok, (0 < kl → a1 = some ⟨bk, ok, none⟩ ∧ bk < w.heap.size) ∧ ∀ j, j < kl → w.cell? ⟨bk, ok + j, none⟩ = some (.int .u8 (zs.getD j 0)) := by
    by_cases k0 : kl = 0
    · exact ⟨0, 0, fun h => by omega, fun j hj => by omega⟩
    rcases w1 with ⟨_, h, _⟩ | ⟨y, rfl, kll, klen, kcell, _⟩
    · exact absurd h k0
    obtain ⟨b2, o2, rfl, hb2⟩ := plain_addr (kcell 0 (by omega))
    exact ⟨b2, o2, fun _ => ⟨rfl, hb2⟩, fun j hj => by have := kcell j (by omega); rwa [add_plain] at this⟩
  obtain ⟨bk, ok, ha, hk⟩ := key
  have hbytes : ∀ j, 0 ≤ zs.getD j 0 ∧ zs.getD j 0 < 256 := fun j => by
    by_cases hj : j < zs.length
    · rcases w1 with ⟨_, _, _, rfl⟩ | ⟨y, _, _, _, _, hw⟩
      · simp at hj
      · refine byte_of_wf (hw _ ?_)
        rw [List.getD_eq_getElem?_getD, List.getElem?_eq_getElem hj]; exact List.getElem_mem hj
    · rw [List.getD_eq_getElem?_getD, List.getElem?_eq_none (by omega)]; simp
  have HT : Told b o n a1 bk ok kl (fun j => ss.getD j ByteArray.empty) (fun j => zs.getD j 0) (fun j => if j < kl then zs.getD j 0 % 5 else 0) w :=
    ⟨fun j hj => by have := hc j (by omega); rwa [add_plain] at this, hb, ha, hk, hbytes, fun j hj => if_pos hj, fun j hj => if_neg (by omega)⟩
  by_cases hs : (if n - 1 < kl then zs.getD (n - 1) 0 % 5 else 0) = 4
  · exact lawA_one b o n cn a1 bk ok kl kc _ _ _ w (by omega) (by omega) HT hs
  · exact lawA_two b o n cn a1 bk ok kl kc _ _ _ w (by omega) (by omega) HT hs

set_option maxRecDepth 100000 in
theorem lifted (os : Os) (started : os.Started) (H : Type) (enc : TypeId × Value → H) :
    ReturnsInHanded {} Yba.checked os 3 .any (Rows.lawS4178APathSpec.pre6 enc Yba.prog Yba.f3 Rows.lawS4178APathRow.domain false) (Rows.lawS4178APathSpec.post enc Yba.prog Yba.f3 false true false false) := by
  refine returnsInHanded_of_change (C := Yba.checked) own started (by kernel_rfl) Yba.func3
    (ChangeSpec.witness6 (enc := enc) (C := Yba.checked) false ⟨#[], #[.slice none 0 0, .slice none 0 0], []⟩ 8 (by kernel_rfl) (by kernel_rfl) (by kernel_rfl) (by kernel_rfl)) ?_
  intro W base args ds gs before hval0 hW hcnd _
  have hval : ∀ (j : Nat) t v, Yba.f3.params[j]? = some t → args[j]? = some v → Value.okWide Yba.prog W .any base t v := hval0
  have hW' := hW
  obtain ⟨p, q, hA0, hV, rfl, hfz, hnd⟩ := hW
  have hA : DataW.TrodAll enc Yba.prog W 0 (fun _ => true) true Yba.f3.params.toList args.toList ds p := hA0
  rw [Yba.params3] at hA hval
  obtain ⟨v0, vs0, d0, ds0, p0, q0, hargs, rfl, rfl, h0, r0⟩ := trodAll_cons hA
  obtain ⟨v1, vs1, d1, ds1, p1, q1, rfl, rfl, rfl, h1, r1⟩ := trodAll_cons r0
  obtain ⟨rfl, rfl, rfl⟩ := trodAll_nil r1
  obtain rfl : args = #[v0, v1] := by cases args; simp_all
  obtain ⟨rfl, rfl⟩ := trodVars_none hV
  obtain ⟨a0, len0, cap0, rfl⟩ := okWide_slice Yba.underlying22 (hval 0 22 v0 rfl rfl)
  obtain ⟨a1, len1, cap1, rfl⟩ := okWide_slice Yba.underlying23 (hval 1 23 v1 rfl rfl)
  have k0 := h0
  have lt0 : ∀ x ∈ p0, x.block < W.heap.size := by obtain ⟨m, hm⟩ := k0; exact DataW.trod_lt m _ _ _ hm
  have k1 := h1
  have lt1 : ∀ x ∈ p1, x.block < W.heap.size := by obtain ⟨m, hm⟩ := k1; exact DataW.trod_lt m _ _ _ hm
  obtain ⟨s0, w0⟩ : ∃ ss, IsStrs W a0 len0 cap0 ss := by
    obtain ⟨fuel, hf⟩ := h0
    rcases open_strings Yba.underlying22 Yba.underlying9 (by kernel_rfl) hf with ⟨hcs, _⟩ | ⟨x, l, c, zs, hcs, _, hl, hm, hz, _, hcell, hwz⟩
    · simp [Value.cells] at hcs
      obtain ⟨rfl, rfl, rfl⟩ := hcs
      exact ⟨[], .inl ⟨rfl, rfl, rfl, rfl⟩⟩
    · simp [Value.cells] at hcs
      obtain ⟨rfl, rfl, rfl⟩ := hcs
      exact ⟨zs, .inr ⟨_, rfl, hl, by simpa using hz, hcell⟩⟩
  obtain ⟨z1, w1⟩ : ∃ zs, IsRow W a1 len1 cap1 zs := by
    obtain ⟨fuel, hf⟩ := h1
    rcases open_ints Yba.underlying23 Yba.underlying5 (by kernel_rfl) hf with ⟨hcs, _⟩ | ⟨x, l, c, zs, hcs, _, hl, hm, hz, _, hcell, hwz⟩
    · simp [Value.cells] at hcs
      obtain ⟨rfl, rfl, rfl⟩ := hcs
      exact ⟨[], .inl ⟨rfl, rfl, rfl, rfl⟩⟩
    · simp [Value.cells] at hcs
      obtain ⟨rfl, rfl, rfl⟩ := hcs
      exact ⟨zs, .inr ⟨_, rfl, hl, by simpa using hz, hcell, hwz⟩⟩
  clear hA0 hval0
  refine (walk a0 len0 cap0 s0 a1 len1 cap1 z1 W w0 w1).mono fun e W' ⟨he, bel⟩ => ?_
  subst he
  exact ⟨_, rfl, _, _, _, [], _, [], hW', trodAll_mk1 (shut_bool Yba.underlying4 _), (trodAll_cons_mk (Below.trod laidOut (by kernel_rfl) (of_decide_eq_true (by kernel_rfl)) k0 bel lt0) (trodAll_cons_mk (Below.trod laidOut (by kernel_rfl) (of_decide_eq_true (by kernel_rfl)) k1 bel lt1) trodAll_mk0)), rfl, bel.frame _, fun h => by cases h⟩

theorem over : Rows.lawS4178APathRow.holds Yba.pinned (OpenSpec.ofChange Rows.lawS4178APathSpec) :=
  OpenClaim.holds_of_wide 3 Yba.f3 rfl rfl rfl rfl rfl rfl rfl ⟨rfl, rfl, rfl, rfl, rfl⟩ rfl rfl rfl rfl rfl (by kernel_rfl) Yba.func3 (by kernel_rfl)
    (of_decide_eq_true (by kernel_rfl)) (by unfold Func.isWrapper; first | (rw [if_pos (by decide +kernel)]; kernel_rfl) | (rw [if_neg (by decide +kernel)]; exact ⟨rfl, rfl⟩))
    (fun os started H enc _ => lifted os started H enc)

theorem proved : Rows.LawS4178APathSaid := over
#print axioms proved
end Go.Proofs.Ybulkchms.lawS4178APath
