/-
  No cell of these rows narrows 'for every input' (looked for: loops, veiled, ifaces, maps, wideKeys, modest, calm, conditions, laid).
  DERIVED. THE GIVEN ROWS OF THIS SEAT. 2 by the template 'for every input the law returns true; each argument reads behind the call as it read before'; 0 by the template 'total and deterministic' (their statements: YbulkcelaTotals.lean).
  GIVEN WITH THE SEED: the statements are not yours to turn. If you find one false, say at which input.
  Laid BY PROGRAM, IN A SANDBOX (cutbox-rows.mjs): the forced cells as the released guide's own fill.sh prints them over the translation 02b2d84c50c9be7a… (all of the seat's roots in one cut). By AI agents, Wed Nov 11 2026. No macro, syntax, notation, axiom, sorry.
-/
import Derived.Test.YbulkcelaChecked
import GoSem.Claim
import GoSem.ClaimJoined
import GoSem.ClaimMapViews
import Derived.JoinedTies
import Derived.KernelRfl
namespace Go.Proofs.Ybulkcela
/- THE CELL 'sum', in the pinned program and in every row, IS THE sha256 OF THE DUMP (.gsa) THAT YbulkcelaProg.lean LOADS. Nothing in Lean hashes anything: it is a label: what it is worth is what the hold of that sum in a sandbox is worth. -/
noncomputable def Yba.pinned : Pinned := { name := "ybulkcela", sum := "02b2d84c50c9be7a6755f4cdc273b5d4b1a9461c2f03bd222315027f4698635f", checked := Yba.checked }
namespace Rows
def none {H : Type} : Left H := { results := [], args := [] }

/-- 'planner.LawS4030BAccepted': WHATEVER THE INPUT: true; the input reads as it did. -/
def lawS4030BAcceptedSpec : ChangeSpec := { name := "lawS4030BAccepted", fn := fun _ => fun
  | [d] => { results := [.lit (.bool true)], args := [d] }
  | _ => none }
def lawS4030BAcceptedRow : OpenClaim := { program := "ybulkcela", sum := "02b2d84c50c9be7a6755f4cdc273b5d4b1a9461c2f03bd222315027f4698635f", func := "example.com/evenkeel/evenkeel/internal/planner.LawS4030BAccepted", spec := "lawS4030BAccepted", unfollowed := true, recurses := true, apart := false }
def LawS4030BAcceptedSaid : Prop := lawS4030BAcceptedRow.holds Yba.pinned (OpenSpec.ofChange lawS4030BAcceptedSpec)

/-- ITS FALSE NEIGHBOUR: 'it returns false'. Refute it at one input. -/
def lawS4030BAcceptedWrong : ChangeSpec := { name := "lawS4030BAccepted", fn := fun _ => fun
  | [d] => { results := [.lit (.bool false)], args := [d] }
  | _ => none }
def LawS4030BAcceptedWrongFalsely : Prop := lawS4030BAcceptedRow.holds Yba.pinned (OpenSpec.ofChange lawS4030BAcceptedWrong)

/-- 'planner.LawS4030BFlown': WHATEVER THE INPUT: true; the input reads as it did. -/
def lawS4030BFlownSpec : ChangeSpec := { name := "lawS4030BFlown", fn := fun _ => fun
  | [d] => { results := [.lit (.bool true)], args := [d] }
  | _ => none }
def lawS4030BFlownRow : OpenClaim := { program := "ybulkcela", sum := "02b2d84c50c9be7a6755f4cdc273b5d4b1a9461c2f03bd222315027f4698635f", func := "example.com/evenkeel/evenkeel/internal/planner.LawS4030BFlown", spec := "lawS4030BFlown", unfollowed := true, recurses := true, apart := false }
def LawS4030BFlownSaid : Prop := lawS4030BFlownRow.holds Yba.pinned (OpenSpec.ofChange lawS4030BFlownSpec)

/-- ITS FALSE NEIGHBOUR: 'it returns false'. Refute it at one input. -/
def lawS4030BFlownWrong : ChangeSpec := { name := "lawS4030BFlown", fn := fun _ => fun
  | [d] => { results := [.lit (.bool false)], args := [d] }
  | _ => none }
def LawS4030BFlownWrongFalsely : Prop := lawS4030BFlownRow.holds Yba.pinned (OpenSpec.ofChange lawS4030BFlownWrong)

end Rows
end Go.Proofs.Ybulkcela
