/-
  No cell of these rows narrows 'for every input' (looked for: loops, veiled, ifaces, maps, wideKeys, modest, calm, conditions, laid).
  DERIVED. THE GIVEN ROWS OF THIS SEAT. 1 by the template 'for every input the law returns true; each argument reads behind the call as it read before'; 0 by the template 'total and deterministic' (their statements: YbulkcemcGreatTotals.lean).
  GIVEN WITH THE SEED: the statements are not yours to turn. If you find one false, say at which input.
  Laid BY PROGRAM, IN A SANDBOX (cutbox-rows.mjs): the forced cells as the released guide's own fill.sh prints them over the translation 6970b7bda4980e96… (all of the seat's roots in one cut). By AI agents, Wed Nov 11 2026. No macro, syntax, notation, axiom, sorry.
-/
import Derived.Test.YbulkcemcGreatChecked
import GoSem.Claim
import GoSem.ClaimJoined
import GoSem.ClaimMapViews
import Derived.JoinedTies
import Derived.KernelRfl
namespace Go.Proofs.YbulkcemcGreat
/- THE CELL 'sum', in the pinned program and in every row, IS THE sha256 OF THE DUMP (.gsa) THAT YbulkcemcGreatProg.lean LOADS. Nothing in Lean hashes anything: it is a label: what it is worth is what the hold of that sum in a sandbox is worth. -/
noncomputable def Ybaz.pinned : Pinned := { name := "ybulkcemcgreat", sum := "6970b7bda4980e96e5c61161c98640d02ca3240f4fba7ebc5e82df2e7dd0117a", checked := Ybaz.checked }
namespace Rows
def none {H : Type} : Left H := { results := [], args := [] }

/-- 'lastplaced.LawS4032CSingleStep': WHATEVER THE INPUT: true; the input reads as it did. -/
def lawS4032CSingleStepSpec : ChangeSpec := { name := "lawS4032CSingleStep", fn := fun _ => fun
  | [d1, d2, d3, d4, d5] => { results := [.lit (.bool true)], args := [d1, d2, d3, d4, d5] }
  | _ => none }
def lawS4032CSingleStepRow : OpenClaim := { program := "ybulkcemcgreat", sum := "6970b7bda4980e96e5c61161c98640d02ca3240f4fba7ebc5e82df2e7dd0117a", func := "example.com/sliceway/sliceway/sim/lastplaced.LawS4032CSingleStep", spec := "lawS4032CSingleStep", unfollowed := true, recurses := true, plainKeys := false, apart := false }
def LawS4032CSingleStepSaid : Prop := lawS4032CSingleStepRow.holds Ybaz.pinned (OpenSpec.ofChange lawS4032CSingleStepSpec)

/-- ITS FALSE NEIGHBOUR: 'it returns false'. Refute it at one input. -/
def lawS4032CSingleStepWrong : ChangeSpec := { name := "lawS4032CSingleStep", fn := fun _ => fun
  | [d1, d2, d3, d4, d5] => { results := [.lit (.bool false)], args := [d1, d2, d3, d4, d5] }
  | _ => none }
def LawS4032CSingleStepWrongFalsely : Prop := lawS4032CSingleStepRow.holds Ybaz.pinned (OpenSpec.ofChange lawS4032CSingleStepWrong)

end Rows
end Go.Proofs.YbulkcemcGreat
