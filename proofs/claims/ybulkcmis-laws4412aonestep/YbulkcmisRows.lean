/-
  No cell of these rows narrows 'for every input' (looked for: loops, veiled, ifaces, maps, wideKeys, modest, calm, conditions, laid).
  DERIVED. THE GIVEN ROWS OF THIS SEAT. 2 by the template 'for every input the law returns true; each argument reads behind the call as it read before'; 0 by the template 'total and deterministic' (their statements: YbulkcmisTotals.lean).
  GIVEN WITH THE SEED: the statements are not yours to turn. If you find one false, say at which input.
  Laid BY PROGRAM, IN A SANDBOX (cutbox-rows.mjs): the forced cells as the released guide's own fill.sh prints them over the translation f208f3549cfaafd9… (all of the seat's roots in one cut). By AI agents, Wed Nov 11 2026. No macro, syntax, notation, axiom, sorry.
-/
import Derived.Test.YbulkcmisChecked
import GoSem.Claim
import GoSem.ClaimJoined
import GoSem.ClaimMapViews
import Derived.JoinedTies
import Derived.KernelRfl
namespace Go.Proofs.Ybulkcmis
/- THE CELL 'sum', in the pinned program and in every row, IS THE sha256 OF THE DUMP (.gsa) THAT YbulkcmisProg.lean LOADS. Nothing in Lean hashes anything: it is a label: what it is worth is what the hold of that sum in a sandbox is worth. -/
noncomputable def Yba.pinned : Pinned := { name := "ybulkcmis", sum := "f208f3549cfaafd9addcbc710be63764032f3deecf5a6e61ab8b3261838ef6d3", checked := Yba.checked }
namespace Rows
def none {H : Type} : Left H := { results := [], args := [] }

/-- 'contentinfo.LawS4412ASequence': WHATEVER THE INPUT: true; the input reads as it did. -/
def lawS4412ASequenceSpec : ChangeSpec := { name := "lawS4412ASequence", fn := fun _ => fun
  | [d] => { results := [.lit (.bool true)], args := [d] }
  | _ => none }
def lawS4412ASequenceRow : OpenClaim := { program := "ybulkcmis", sum := "f208f3549cfaafd9addcbc710be63764032f3deecf5a6e61ab8b3261838ef6d3", func := "example.com/hearthcache/hearthcache/pkg/contentinfo.LawS4412ASequence", spec := "lawS4412ASequence", named := ["encoding/binary.BigEndian"], apart := false }
def LawS4412ASequenceSaid : Prop := lawS4412ASequenceRow.holds Yba.pinned (OpenSpec.ofChange lawS4412ASequenceSpec)

/-- ITS FALSE NEIGHBOUR: 'it returns false'. Refute it at one input. -/
def lawS4412ASequenceWrong : ChangeSpec := { name := "lawS4412ASequence", fn := fun _ => fun
  | [d] => { results := [.lit (.bool false)], args := [d] }
  | _ => none }
def LawS4412ASequenceWrongFalsely : Prop := lawS4412ASequenceRow.holds Yba.pinned (OpenSpec.ofChange lawS4412ASequenceWrong)

/-- 'contentinfo.LawS4412AOneStep': WHATEVER THE INPUT: true; the input reads as it did. -/
def lawS4412AOneStepSpec : ChangeSpec := { name := "lawS4412AOneStep", fn := fun _ => fun
  | [d1, d2, d3, d4, d5, d6, d7] => { results := [.lit (.bool true)], args := [d1, d2, d3, d4, d5, d6, d7] }
  | _ => none }
def lawS4412AOneStepRow : OpenClaim := { program := "ybulkcmis", sum := "f208f3549cfaafd9addcbc710be63764032f3deecf5a6e61ab8b3261838ef6d3", func := "example.com/hearthcache/hearthcache/pkg/contentinfo.LawS4412AOneStep", spec := "lawS4412AOneStep", named := ["encoding/binary.BigEndian"], apart := false }
def LawS4412AOneStepSaid : Prop := lawS4412AOneStepRow.holds Yba.pinned (OpenSpec.ofChange lawS4412AOneStepSpec)

/-- ITS FALSE NEIGHBOUR: 'it returns false'. Refute it at one input. -/
def lawS4412AOneStepWrong : ChangeSpec := { name := "lawS4412AOneStep", fn := fun _ => fun
  | [d1, d2, d3, d4, d5, d6, d7] => { results := [.lit (.bool false)], args := [d1, d2, d3, d4, d5, d6, d7] }
  | _ => none }
def LawS4412AOneStepWrongFalsely : Prop := lawS4412AOneStepRow.holds Yba.pinned (OpenSpec.ofChange lawS4412AOneStepWrong)

end Rows
end Go.Proofs.Ybulkcmis
