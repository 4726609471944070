/-
  No cell of these rows narrows 'for every input' (looked for: loops, veiled, ifaces, maps, wideKeys, modest, calm, conditions, laid).
  DERIVED. THE GIVEN ROWS OF THIS SEAT. 2 by the template 'for every input the law returns true; each argument reads behind the call as it read before'; 0 by the template 'total and deterministic' (their statements: YbulkchlqTotals.lean).
  GIVEN WITH THE SEED: the statements are not yours to turn. If you find one false, say at which input.
  Laid BY PROGRAM, IN A SANDBOX (cutbox-rows.mjs): the forced cells as the released guide's own fill.sh prints them over the translation b324a47bb701bcce… (all of the seat's roots in one cut). By AI agents, Wed Nov 11 2026. No macro, syntax, notation, axiom, sorry.
-/
import Derived.Test.YbulkchlqChecked
import GoSem.Claim
import GoSem.ClaimJoined
import GoSem.ClaimMapViews
import Derived.JoinedTies
import Derived.KernelRfl
namespace Go.Proofs.Ybulkchlq
/- THE CELL 'sum', in the pinned program and in every row, IS THE sha256 OF THE DUMP (.gsa) THAT YbulkchlqProg.lean LOADS. Nothing in Lean hashes anything: it is a label: what it is worth is what the hold of that sum in a sandbox is worth. -/
noncomputable def Yba.pinned : Pinned := { name := "ybulkchlq", sum := "b324a47bb701bcce8168e443720ab71003c8bcd4f7bd238f567c1c143a64f94e", checked := Yba.checked }
namespace Rows
def none {H : Type} : Left H := { results := [], args := [] }

/-- 'bencode.LawS4176CShape': WHATEVER THE INPUT: true; the input reads as it did. -/
def lawS4176CShapeSpec : ChangeSpec := { name := "lawS4176CShape", fn := fun _ => fun
  | [d] => { results := [.lit (.bool true)], args := [d] }
  | _ => none }
def lawS4176CShapeRow : OpenClaim := { program := "ybulkchlq", sum := "b324a47bb701bcce8168e443720ab71003c8bcd4f7bd238f567c1c143a64f94e", func := "example.com/nearkey/nearkey/internal/bencode.LawS4176CShape", spec := "lawS4176CShape", apart := false }
def LawS4176CShapeSaid : Prop := lawS4176CShapeRow.holds Yba.pinned (OpenSpec.ofChange lawS4176CShapeSpec)

/-- ITS FALSE NEIGHBOUR: 'it returns false'. Refute it at one input. -/
def lawS4176CShapeWrong : ChangeSpec := { name := "lawS4176CShape", fn := fun _ => fun
  | [d] => { results := [.lit (.bool false)], args := [d] }
  | _ => none }
def LawS4176CShapeWrongFalsely : Prop := lawS4176CShapeRow.holds Yba.pinned (OpenSpec.ofChange lawS4176CShapeWrong)

/-- 'bencode.LawS4176CKinds': WHATEVER THE INPUT: true; the input reads as it did. -/
def lawS4176CKindsSpec : ChangeSpec := { name := "lawS4176CKinds", fn := fun _ => fun
  | [d1, d2] => { results := [.lit (.bool true)], args := [d1, d2] }
  | _ => none }
def lawS4176CKindsRow : OpenClaim := { program := "ybulkchlq", sum := "b324a47bb701bcce8168e443720ab71003c8bcd4f7bd238f567c1c143a64f94e", func := "example.com/nearkey/nearkey/internal/bencode.LawS4176CKinds", spec := "lawS4176CKinds", apart := false }
def LawS4176CKindsSaid : Prop := lawS4176CKindsRow.holds Yba.pinned (OpenSpec.ofChange lawS4176CKindsSpec)

/-- ITS FALSE NEIGHBOUR: 'it returns false'. Refute it at one input. -/
def lawS4176CKindsWrong : ChangeSpec := { name := "lawS4176CKinds", fn := fun _ => fun
  | [d1, d2] => { results := [.lit (.bool false)], args := [d1, d2] }
  | _ => none }
def LawS4176CKindsWrongFalsely : Prop := lawS4176CKindsRow.holds Yba.pinned (OpenSpec.ofChange lawS4176CKindsWrong)

end Rows
end Go.Proofs.Ybulkchlq
