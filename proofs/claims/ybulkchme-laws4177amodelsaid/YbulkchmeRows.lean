/-
  No cell of these rows narrows 'for every input' (looked for: loops, veiled, ifaces, maps, wideKeys, modest, calm, conditions, laid).
  DERIVED. THE GIVEN ROWS OF THIS SEAT. 2 by the template 'for every input the law returns true; each argument reads behind the call as it read before'; 0 by the template 'total and deterministic' (their statements: YbulkchmeTotals.lean).
  GIVEN WITH THE SEED: the statements are not yours to turn. If you find one false, say at which input.
  Laid BY PROGRAM, IN A SANDBOX (cutbox-rows.mjs): the forced cells as the released guide's own fill.sh prints them over the translation 543d36b13d575ed7… (all of the seat's roots in one cut). By AI agents, Wed Nov 11 2026. No macro, syntax, notation, axiom, sorry.
-/
import Derived.Test.YbulkchmeChecked
import GoSem.Claim
import GoSem.ClaimJoined
import GoSem.ClaimMapViews
import Derived.JoinedTies
import Derived.KernelRfl
namespace Go.Proofs.Ybulkchme
/- THE CELL 'sum', in the pinned program and in every row, IS THE sha256 OF THE DUMP (.gsa) THAT YbulkchmeProg.lean LOADS. Nothing in Lean hashes anything: it is a label: what it is worth is what the hold of that sum in a sandbox is worth. -/
noncomputable def Yba.pinned : Pinned := { name := "ybulkchme", sum := "543d36b13d575ed75280e7a4d753eb3e100d84d629cd71c30c80093b7e2e0c30", checked := Yba.checked }
namespace Rows
def none {H : Type} : Left H := { results := [], args := [] }

/-- 'ring.LawS4177AModel': WHATEVER THE INPUT: true; the input reads as it did. -/
def lawS4177AModelSpec : ChangeSpec := { name := "lawS4177AModel", fn := fun _ => fun
  | [d1, d2] => { results := [.lit (.bool true)], args := [d1, d2] }
  | _ => none }
def lawS4177AModelRow : OpenClaim := { program := "ybulkchme", sum := "543d36b13d575ed75280e7a4d753eb3e100d84d629cd71c30c80093b7e2e0c30", func := "example.com/hushwalk/hushwalk/ring.LawS4177AModel", spec := "lawS4177AModel", named := ["encoding/binary.LittleEndian"], apart := false }
def LawS4177AModelSaid : Prop := lawS4177AModelRow.holds Yba.pinned (OpenSpec.ofChange lawS4177AModelSpec)

/-- ITS FALSE NEIGHBOUR: 'it returns false'. Refute it at one input. -/
def lawS4177AModelWrong : ChangeSpec := { name := "lawS4177AModel", fn := fun _ => fun
  | [d1, d2] => { results := [.lit (.bool false)], args := [d1, d2] }
  | _ => none }
def LawS4177AModelWrongFalsely : Prop := lawS4177AModelRow.holds Yba.pinned (OpenSpec.ofChange lawS4177AModelWrong)

/-- 'ring.LawS4177ANear': WHATEVER THE INPUT: true; the input reads as it did. -/
def lawS4177ANearSpec : ChangeSpec := { name := "lawS4177ANear", fn := fun _ => fun
  | [d1, d2, d3] => { results := [.lit (.bool true)], args := [d1, d2, d3] }
  | _ => none }
def lawS4177ANearRow : OpenClaim := { program := "ybulkchme", sum := "543d36b13d575ed75280e7a4d753eb3e100d84d629cd71c30c80093b7e2e0c30", func := "example.com/hushwalk/hushwalk/ring.LawS4177ANear", spec := "lawS4177ANear", named := ["encoding/binary.LittleEndian"], apart := false }
def LawS4177ANearSaid : Prop := lawS4177ANearRow.holds Yba.pinned (OpenSpec.ofChange lawS4177ANearSpec)

/-- ITS FALSE NEIGHBOUR: 'it returns false'. Refute it at one input. -/
def lawS4177ANearWrong : ChangeSpec := { name := "lawS4177ANear", fn := fun _ => fun
  | [d1, d2, d3] => { results := [.lit (.bool false)], args := [d1, d2, d3] }
  | _ => none }
def LawS4177ANearWrongFalsely : Prop := lawS4177ANearRow.holds Yba.pinned (OpenSpec.ofChange lawS4177ANearWrong)

end Rows
end Go.Proofs.Ybulkchme
