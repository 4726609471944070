/-
  What a call leaves as it was.
-/
import Derived.Test.YbulkchngOwn
namespace Go.Proofs.Ybulkchng
open Go.RowKit

/-- All blocks below B but those of X are as they were; so are the system, the tape and the output. -/
structure Frm (B : Nat) (X : Nat → Prop) (w w' : World) : Prop where
  os : w'.os = w.os
  tape : w'.tape = w.tape
  output : w'.output = w.output
  size : w.heap.size ≤ w'.heap.size
  block : ∀ k, k < B → ¬ X k → w'.heap[k]? = w.heap[k]?

theorem Frm.refl (B : Nat) (X : Nat → Prop) (w : World) : Frm B X w w := ⟨rfl, rfl, rfl, Nat.le_refl _, fun _ _ _ => rfl⟩
theorem Frm.trans {B : Nat} {X : Nat → Prop} {a b c : World} (h : Frm B X a b) (k : Frm B X b c) : Frm B X a c :=
  ⟨k.os.trans h.os, k.tape.trans h.tape, k.output.trans h.output, Nat.le_trans h.size k.size, fun i hi hx => (k.block i hi hx).trans (h.block i hi hx)⟩
theorem Frm.mono {B B' : Nat} {X X' : Nat → Prop} {a b : World} (h : Frm B X a b) (hB : B' ≤ B) (hX : ∀ k, X k → X' k) : Frm B' X' a b :=
  ⟨h.os, h.tape, h.output, h.size, fun k hk hx => h.block k (Nat.lt_of_lt_of_le hk hB) (fun q => hx (hX k q))⟩
theorem Frm.of {B : Nat} {X : Nat → Prop} {w w' : World} {row : Option Nat} (hg : w.grownBy w' row) (hr : ∀ k, row = some k → B ≤ k ∨ X k) (hB : B ≤ w.heap.size) : Frm B X w w' :=
  ⟨hg.os, hg.tape, hg.output, hg.size, fun k hk hx => hg.block k (Nat.lt_of_lt_of_le hk hB) (fun e => by
    rcases hr k e.symm with h | h
    · omega
    · exact hx h)⟩
theorem Frm.grown {B : Nat} {X : Nat → Prop} {w w1 w2 : World} {row : Option Nat} (h : Frm B X w w1) (hg : w1.grownBy w2 row) (hr : ∀ k, row = some k → B ≤ k ∨ X k) (hB : B ≤ w1.heap.size) : Frm B X w w2 := h.trans (Frm.of hg hr hB)
theorem Frm.cell {B : Nat} {X : Nat → Prop} {w w' : World} (h : Frm B X w w') {a : Addr} {v : Value} (hc : w.cell? a = some v) (hb : a.block < B) (hx : ¬ X a.block) : w'.cell? a = some v :=
  (World.cell?_of_block (h.block a.block hb hx)).trans hc
theorem Frm.frozen {B : Nat} {X : Nat → Prop} {w w' : World} (h : Frm B X w w') {a : Addr} (hc : w.frozen? a = false) (hb : a.block < B) (hx : ¬ X a.block) : w'.frozen? a = false :=
  (World.frozen?_of_block (h.block a.block hb hx)).trans hc
end Go.Proofs.Ybulkchng
