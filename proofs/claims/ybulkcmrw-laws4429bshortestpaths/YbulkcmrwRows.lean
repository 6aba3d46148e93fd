/-
  No cell of these rows narrows 'for every input' (looked for: loops, veiled, ifaces, maps, wideKeys, modest, calm, conditions, laid).
  DERIVED. THE GIVEN ROWS OF THIS SEAT. 1 by the template 'for every input the law returns true; each argument reads behind the call as it read before'; 0 by the template 'total and deterministic' (their statements: YbulkcmrwTotals.lean).
  GIVEN WITH THE SEED: the statements are not yours to turn. If you find one false, say at which input.
  Laid BY PROGRAM, IN A SANDBOX (cutbox-rows.mjs): the forced cells as the released guide's own fill.sh prints them over the translation e3a898c51039e1b7… (all of the seat's roots in one cut). By AI agents, Wed Nov 11 2026. No macro, syntax, notation, axiom, sorry.
-/
import Derived.Test.YbulkcmrwChecked
import GoSem.Claim
import GoSem.ClaimJoined
import GoSem.ClaimMapViews
import Derived.JoinedTies
import Derived.KernelRfl
namespace Go.Proofs.Ybulkcmrw
/- THE CELL 'sum', in the pinned program and in every row, IS THE sha256 OF THE DUMP (.gsa) THAT YbulkcmrwProg.lean LOADS. Nothing in Lean hashes anything: it is a label: what it is worth is what the hold of that sum in a sandbox is worth. -/
noncomputable def Yba.pinned : Pinned := { name := "ybulkcmrw", sum := "e3a898c51039e1b74b065269cfaa92dbbced27da080555b0f75520014b125777", checked := Yba.checked }
namespace Rows
def none {H : Type} : Left H := { results := [], args := [] }

/-- 'flow.LawS4429BShortestPaths': WHATEVER THE INPUT: true; the input reads as it did. -/
def lawS4429BShortestPathsSpec : ChangeSpec := { name := "lawS4429BShortestPaths", fn := fun _ => fun
  | [d] => { results := [.lit (.bool true)], args := [d] }
  | _ => none }
def lawS4429BShortestPathsRow : OpenClaim := { program := "ybulkcmrw", sum := "e3a898c51039e1b74b065269cfaa92dbbced27da080555b0f75520014b125777", func := "example.com/tallyring/tallyring/pkg/flow.LawS4429BShortestPaths", spec := "lawS4429BShortestPaths", unfollowed := true, recurses := true, apart := false }
def LawS4429BShortestPathsSaid : Prop := lawS4429BShortestPathsRow.holds Yba.pinned (OpenSpec.ofChange lawS4429BShortestPathsSpec)

/-- ITS FALSE NEIGHBOUR: 'it returns false'. Refute it at one input. -/
def lawS4429BShortestPathsWrong : ChangeSpec := { name := "lawS4429BShortestPaths", fn := fun _ => fun
  | [d] => { results := [.lit (.bool false)], args := [d] }
  | _ => none }
def LawS4429BShortestPathsWrongFalsely : Prop := lawS4429BShortestPathsRow.holds Yba.pinned (OpenSpec.ofChange lawS4429BShortestPathsWrong)

end Rows
end Go.Proofs.Ybulkcmrw
