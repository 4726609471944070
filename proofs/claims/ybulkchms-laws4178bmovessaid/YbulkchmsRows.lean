/-
  No cell of these rows narrows 'for every input' (looked for: loops, veiled, ifaces, maps, wideKeys, modest, calm, conditions, laid).
  DERIVED. THE GIVEN ROWS OF THIS SEAT. 2 by the template 'for every input the law returns true; each argument reads behind the call as it read before'; 0 by the template 'total and deterministic' (their statements: YbulkchmsTotals.lean).
  GIVEN WITH THE SEED: the statements are not yours to turn. If you find one false, say at which input.
  Laid BY PROGRAM, IN A SANDBOX (cutbox-rows.mjs): the forced cells as the released guide's own fill.sh prints them over the translation c9876de66026d689… (all of the seat's roots in one cut). By AI agents, Wed Nov 11 2026. No macro, syntax, notation, axiom, sorry.
-/
import Derived.Test.YbulkchmsChecked
import GoSem.Claim
import GoSem.ClaimJoined
import GoSem.ClaimMapViews
import Derived.JoinedTies
import Derived.KernelRfl
namespace Go.Proofs.Ybulkchms
/- THE CELL 'sum', in the pinned program and in every row, IS THE sha256 OF THE DUMP (.gsa) THAT YbulkchmsProg.lean LOADS. Nothing in Lean hashes anything: it is a label: what it is worth is what the hold of that sum in a sandbox is worth. -/
noncomputable def Yba.pinned : Pinned := { name := "ybulkchms", sum := "c9876de66026d68919fac2dc95de7c65f310fe9440646976240475d064159a25", checked := Yba.checked }
namespace Rows
def none {H : Type} : Left H := { results := [], args := [] }

/-- 'grantwork.LawS4178APath': WHATEVER THE INPUT: true; the input reads as it did. -/
def lawS4178APathSpec : ChangeSpec := { name := "lawS4178APath", fn := fun _ => fun
  | [d1, d2] => { results := [.lit (.bool true)], args := [d1, d2] }
  | _ => none }
def lawS4178APathRow : OpenClaim := { program := "ybulkchms", sum := "c9876de66026d68919fac2dc95de7c65f310fe9440646976240475d064159a25", func := "example.com/grantwork/grantwork.LawS4178APath", spec := "lawS4178APath", recurses := true, apart := false }
def LawS4178APathSaid : Prop := lawS4178APathRow.holds Yba.pinned (OpenSpec.ofChange lawS4178APathSpec)

/-- ITS FALSE NEIGHBOUR: 'it returns false'. Refute it at one input. -/
def lawS4178APathWrong : ChangeSpec := { name := "lawS4178APath", fn := fun _ => fun
  | [d1, d2] => { results := [.lit (.bool false)], args := [d1, d2] }
  | _ => none }
def LawS4178APathWrongFalsely : Prop := lawS4178APathRow.holds Yba.pinned (OpenSpec.ofChange lawS4178APathWrong)

/-- 'grantwork.LawS4178BMoves': WHATEVER THE INPUT: true; the input reads as it did. -/
def lawS4178BMovesSpec : ChangeSpec := { name := "lawS4178BMoves", fn := fun _ => fun
  | [d1, d2, d3] => { results := [.lit (.bool true)], args := [d1, d2, d3] }
  | _ => none }
def lawS4178BMovesRow : OpenClaim := { program := "ybulkchms", sum := "c9876de66026d68919fac2dc95de7c65f310fe9440646976240475d064159a25", func := "example.com/grantwork/grantwork.LawS4178BMoves", spec := "lawS4178BMoves", apart := false }
def LawS4178BMovesSaid : Prop := lawS4178BMovesRow.holds Yba.pinned (OpenSpec.ofChange lawS4178BMovesSpec)

/-- ITS FALSE NEIGHBOUR: 'it returns false'. Refute it at one input. -/
def lawS4178BMovesWrong : ChangeSpec := { name := "lawS4178BMoves", fn := fun _ => fun
  | [d1, d2, d3] => { results := [.lit (.bool false)], args := [d1, d2, d3] }
  | _ => none }
def LawS4178BMovesWrongFalsely : Prop := lawS4178BMovesRow.holds Yba.pinned (OpenSpec.ofChange lawS4178BMovesWrong)

end Rows
end Go.Proofs.Ybulkchms
