/-
  No cell of these rows narrows 'for every input' (looked for: loops, veiled, ifaces, maps, wideKeys, modest, calm, conditions, laid).
  DERIVED. THE GIVEN ROWS OF THIS SEAT. 2 by the template 'for every input the law returns true; each argument reads behind the call as it read before'; 0 by the template 'total and deterministic' (their statements: YbulkchngTotals.lean).
  GIVEN WITH THE SEED: the statements are not yours to turn. If you find one false, say at which input.
  Laid BY PROGRAM, IN A SANDBOX (cutbox-rows.mjs): the forced cells as the released guide's own fill.sh prints them over the translation 01d099eba55a23e2… (all of the seat's roots in one cut). By AI agents, Wed Nov 11 2026. No macro, syntax, notation, axiom, sorry.
-/
import Derived.Test.YbulkchngChecked
import GoSem.Claim
import GoSem.ClaimJoined
import GoSem.ClaimMapViews
import Derived.JoinedTies
import Derived.KernelRfl
namespace Go.Proofs.Ybulkchng
/- THE CELL 'sum', in the pinned program and in every row, IS THE sha256 OF THE DUMP (.gsa) THAT YbulkchngProg.lean LOADS. Nothing in Lean hashes anything: it is a label: what it is worth is what the hold of that sum in a sandbox is worth. -/
noncomputable def Yba.pinned : Pinned := { name := "ybulkchng", sum := "01d099eba55a23e221d552f3a8d2520a0f55213b077b9a8552db55cd2f41d275", checked := Yba.checked }
namespace Rows
def none {H : Type} : Left H := { results := [], args := [] }

/-- 'kvasir.LawS4179ASingle': WHATEVER THE INPUT: true; the input reads as it did. -/
def lawS4179ASingleSpec : ChangeSpec := { name := "lawS4179ASingle", fn := fun _ => fun
  | [d1, d2, d3, d4] => { results := [.lit (.bool true)], args := [d1, d2, d3, d4] }
  | _ => none }
def lawS4179ASingleRow : OpenClaim := { program := "ybulkchng", sum := "01d099eba55a23e221d552f3a8d2520a0f55213b077b9a8552db55cd2f41d275", func := "example.com/kvasir/kvasir.LawS4179ASingle", spec := "lawS4179ASingle", inPlace := ["math.Float64frombits"], unfollowed := true, recurses := true, apart := false }
def LawS4179ASingleSaid : Prop := lawS4179ASingleRow.holds Yba.pinned (OpenSpec.ofChange lawS4179ASingleSpec)

/-- ITS FALSE NEIGHBOUR: 'it returns false'. Refute it at one input. -/
def lawS4179ASingleWrong : ChangeSpec := { name := "lawS4179ASingle", fn := fun _ => fun
  | [d1, d2, d3, d4] => { results := [.lit (.bool false)], args := [d1, d2, d3, d4] }
  | _ => none }
def LawS4179ASingleWrongFalsely : Prop := lawS4179ASingleRow.holds Yba.pinned (OpenSpec.ofChange lawS4179ASingleWrong)

/-- 'kvasir.LawS4179AGroup': WHATEVER THE INPUT: true; the input reads as it did. -/
def lawS4179AGroupSpec : ChangeSpec := { name := "lawS4179AGroup", fn := fun _ => fun
  | [d1, d2, d3, d4, d5, d6] => { results := [.lit (.bool true)], args := [d1, d2, d3, d4, d5, d6] }
  | _ => none }
def lawS4179AGroupRow : OpenClaim := { program := "ybulkchng", sum := "01d099eba55a23e221d552f3a8d2520a0f55213b077b9a8552db55cd2f41d275", func := "example.com/kvasir/kvasir.LawS4179AGroup", spec := "lawS4179AGroup", inPlace := ["math.Float64frombits"], unfollowed := true, recurses := true, apart := false }
def LawS4179AGroupSaid : Prop := lawS4179AGroupRow.holds Yba.pinned (OpenSpec.ofChange lawS4179AGroupSpec)

/-- ITS FALSE NEIGHBOUR: 'it returns false'. Refute it at one input. -/
def lawS4179AGroupWrong : ChangeSpec := { name := "lawS4179AGroup", fn := fun _ => fun
  | [d1, d2, d3, d4, d5, d6] => { results := [.lit (.bool false)], args := [d1, d2, d3, d4, d5, d6] }
  | _ => none }
def LawS4179AGroupWrongFalsely : Prop := lawS4179AGroupRow.holds Yba.pinned (OpenSpec.ofChange lawS4179AGroupWrong)

end Rows
end Go.Proofs.Ybulkchng
