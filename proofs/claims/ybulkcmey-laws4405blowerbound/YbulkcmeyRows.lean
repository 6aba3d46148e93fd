/-
  No cell of these rows narrows 'for every input' (looked for: loops, veiled, ifaces, maps, wideKeys, modest, calm, conditions, laid).
  DERIVED. THE GIVEN ROWS OF THIS SEAT. 6 by the template 'for every input the law returns true; each argument reads behind the call as it read before'; 0 by the template 'total and deterministic' (their statements: YbulkcmeyTotals.lean).
  GIVEN WITH THE SEED: the statements are not yours to turn. If you find one false, say at which input.
  Laid BY PROGRAM, IN A SANDBOX (cutbox-rows.mjs): the forced cells as the released guide's own fill.sh prints them over the translation 7eb16942196366d7… (all of the seat's roots in one cut). By AI agents, Wed Nov 11 2026. No macro, syntax, notation, axiom, sorry.
-/
import Derived.Test.YbulkcmeyChecked
import GoSem.Claim
import GoSem.ClaimJoined
import GoSem.ClaimMapViews
import Derived.JoinedTies
import Derived.KernelRfl
namespace Go.Proofs.Ybulkcmey
/- THE CELL 'sum', in the pinned program and in every row, IS THE sha256 OF THE DUMP (.gsa) THAT YbulkcmeyProg.lean LOADS. Nothing in Lean hashes anything: it is a label: what it is worth is what the hold of that sum in a sandbox is worth. -/
noncomputable def Yba.pinned : Pinned := { name := "ybulkcmey", sum := "7eb16942196366d715ed221ad49e6e20f444722abdadaeb25d3830ea4e7470e6", checked := Yba.checked }
namespace Rows
def none {H : Type} : Left H := { results := [], args := [] }

/-- 'record.LawS4405ACut': WHATEVER THE INPUT: true; the input reads as it did. -/
def lawS4405ACutSpec : ChangeSpec := { name := "lawS4405ACut", fn := fun _ => fun
  | [d1, d2, d3] => { results := [.lit (.bool true)], args := [d1, d2, d3] }
  | _ => none }
def lawS4405ACutRow : OpenClaim := { program := "ybulkcmey", sum := "7eb16942196366d715ed221ad49e6e20f444722abdadaeb25d3830ea4e7470e6", func := "example.com/ashlar/ashlar/internal/record.LawS4405ACut", spec := "lawS4405ACut", named := ["encoding/binary.LittleEndian"], apart := false }
def LawS4405ACutSaid : Prop := lawS4405ACutRow.holds Yba.pinned (OpenSpec.ofChange lawS4405ACutSpec)

/-- ITS FALSE NEIGHBOUR: 'it returns false'. Refute it at one input. -/
def lawS4405ACutWrong : ChangeSpec := { name := "lawS4405ACut", fn := fun _ => fun
  | [d1, d2, d3] => { results := [.lit (.bool false)], args := [d1, d2, d3] }
  | _ => none }
def LawS4405ACutWrongFalsely : Prop := lawS4405ACutRow.holds Yba.pinned (OpenSpec.ofChange lawS4405ACutWrong)

/-- 'record.LawS4405AAddCut': WHATEVER THE INPUT: true; the input reads as it did. -/
def lawS4405AAddCutSpec : ChangeSpec := { name := "lawS4405AAddCut", fn := fun _ => fun
  | [d1, d2] => { results := [.lit (.bool true)], args := [d1, d2] }
  | _ => none }
def lawS4405AAddCutRow : OpenClaim := { program := "ybulkcmey", sum := "7eb16942196366d715ed221ad49e6e20f444722abdadaeb25d3830ea4e7470e6", func := "example.com/ashlar/ashlar/internal/record.LawS4405AAddCut", spec := "lawS4405AAddCut", unfollowed := true, recurses := true, named := ["encoding/binary.LittleEndian"], apart := false }
def LawS4405AAddCutSaid : Prop := lawS4405AAddCutRow.holds Yba.pinned (OpenSpec.ofChange lawS4405AAddCutSpec)

/-- ITS FALSE NEIGHBOUR: 'it returns false'. Refute it at one input. -/
def lawS4405AAddCutWrong : ChangeSpec := { name := "lawS4405AAddCut", fn := fun _ => fun
  | [d1, d2] => { results := [.lit (.bool false)], args := [d1, d2] }
  | _ => none }
def LawS4405AAddCutWrongFalsely : Prop := lawS4405AAddCutRow.holds Yba.pinned (OpenSpec.ofChange lawS4405AAddCutWrong)

/-- 'ordered.LawS4405BLowerBound': WHATEVER THE INPUT: true; the input reads as it did. -/
def lawS4405BLowerBoundSpec : ChangeSpec := { name := "lawS4405BLowerBound", fn := fun _ => fun
  | [d1, d2, d3, d4] => { results := [.lit (.bool true)], args := [d1, d2, d3, d4] }
  | _ => none }
def lawS4405BLowerBoundRow : OpenClaim := { program := "ybulkcmey", sum := "7eb16942196366d715ed221ad49e6e20f444722abdadaeb25d3830ea4e7470e6", func := "example.com/ashlar/ashlar/internal/ordered.LawS4405BLowerBound", spec := "lawS4405BLowerBound", recurses := true, apart := false }
def LawS4405BLowerBoundSaid : Prop := lawS4405BLowerBoundRow.holds Yba.pinned (OpenSpec.ofChange lawS4405BLowerBoundSpec)

/-- ITS FALSE NEIGHBOUR: 'it returns false'. Refute it at one input. -/
def lawS4405BLowerBoundWrong : ChangeSpec := { name := "lawS4405BLowerBound", fn := fun _ => fun
  | [d1, d2, d3, d4] => { results := [.lit (.bool false)], args := [d1, d2, d3, d4] }
  | _ => none }
def LawS4405BLowerBoundWrongFalsely : Prop := lawS4405BLowerBoundRow.holds Yba.pinned (OpenSpec.ofChange lawS4405BLowerBoundWrong)

/-- 'ordered.LawS4405BEveryKeyFound': WHATEVER THE INPUT: true; the input reads as it did. -/
def lawS4405BEveryKeyFoundSpec : ChangeSpec := { name := "lawS4405BEveryKeyFound", fn := fun _ => fun
  | [d1, d2] => { results := [.lit (.bool true)], args := [d1, d2] }
  | _ => none }
def lawS4405BEveryKeyFoundRow : OpenClaim := { program := "ybulkcmey", sum := "7eb16942196366d715ed221ad49e6e20f444722abdadaeb25d3830ea4e7470e6", func := "example.com/ashlar/ashlar/internal/ordered.LawS4405BEveryKeyFound", spec := "lawS4405BEveryKeyFound", recurses := true, apart := false }
def LawS4405BEveryKeyFoundSaid : Prop := lawS4405BEveryKeyFoundRow.holds Yba.pinned (OpenSpec.ofChange lawS4405BEveryKeyFoundSpec)

/-- ITS FALSE NEIGHBOUR: 'it returns false'. Refute it at one input. -/
def lawS4405BEveryKeyFoundWrong : ChangeSpec := { name := "lawS4405BEveryKeyFound", fn := fun _ => fun
  | [d1, d2] => { results := [.lit (.bool false)], args := [d1, d2] }
  | _ => none }
def LawS4405BEveryKeyFoundWrongFalsely : Prop := lawS4405BEveryKeyFoundRow.holds Yba.pinned (OpenSpec.ofChange lawS4405BEveryKeyFoundWrong)

/-- 'ashlar.LawS4405CExact': WHATEVER THE INPUT: true; the input reads as it did. -/
def lawS4405CExactSpec : ChangeSpec := { name := "lawS4405CExact", fn := fun _ => fun
  | [d1, d2, d3, d4, d5, d6] => { results := [.lit (.bool true)], args := [d1, d2, d3, d4, d5, d6] }
  | _ => none }
def lawS4405CExactRow : OpenClaim := { program := "ybulkcmey", sum := "7eb16942196366d715ed221ad49e6e20f444722abdadaeb25d3830ea4e7470e6", func := "example.com/ashlar/ashlar.LawS4405CExact", spec := "lawS4405CExact", apart := false }
def LawS4405CExactSaid : Prop := lawS4405CExactRow.holds Yba.pinned (OpenSpec.ofChange lawS4405CExactSpec)

/-- ITS FALSE NEIGHBOUR: 'it returns false'. Refute it at one input. -/
def lawS4405CExactWrong : ChangeSpec := { name := "lawS4405CExact", fn := fun _ => fun
  | [d1, d2, d3, d4, d5, d6] => { results := [.lit (.bool false)], args := [d1, d2, d3, d4, d5, d6] }
  | _ => none }
def LawS4405CExactWrongFalsely : Prop := lawS4405CExactRow.holds Yba.pinned (OpenSpec.ofChange lawS4405CExactWrong)

/-- 'ashlar.LawS4405CAfterEnter': WHATEVER THE INPUT: true; the input reads as it did. -/
def lawS4405CAfterEnterSpec : ChangeSpec := { name := "lawS4405CAfterEnter", fn := fun _ => fun
  | [d1, d2, d3, d4] => { results := [.lit (.bool true)], args := [d1, d2, d3, d4] }
  | _ => none }
def lawS4405CAfterEnterRow : OpenClaim := { program := "ybulkcmey", sum := "7eb16942196366d715ed221ad49e6e20f444722abdadaeb25d3830ea4e7470e6", func := "example.com/ashlar/ashlar.LawS4405CAfterEnter", spec := "lawS4405CAfterEnter", unfollowed := true, recurses := true, apart := false }
def LawS4405CAfterEnterSaid : Prop := lawS4405CAfterEnterRow.holds Yba.pinned (OpenSpec.ofChange lawS4405CAfterEnterSpec)

/-- ITS FALSE NEIGHBOUR: 'it returns false'. Refute it at one input. -/
def lawS4405CAfterEnterWrong : ChangeSpec := { name := "lawS4405CAfterEnter", fn := fun _ => fun
  | [d1, d2, d3, d4] => { results := [.lit (.bool false)], args := [d1, d2, d3, d4] }
  | _ => none }
def LawS4405CAfterEnterWrongFalsely : Prop := lawS4405CAfterEnterRow.holds Yba.pinned (OpenSpec.ofChange lawS4405CAfterEnterWrong)

end Rows
end Go.Proofs.Ybulkcmey
