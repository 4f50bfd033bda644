/-
  No cell of these rows narrows 'for every input' (looked for: loops, veiled, ifaces, maps, wideKeys, modest, calm, conditions, laid).
  DERIVED. THE GIVEN ROWS OF THIS SEAT. 1 by the template 'for every input the law returns true; each argument reads behind the call as it read before'; 0 by the template 'total and deterministic' (their statements: YbulkceouTotals.lean).
  GIVEN WITH THE SEED: the statements are not yours to turn. If you find one false, say at which input.
  Laid BY PROGRAM, IN A SANDBOX (cutbox-rows.mjs): the forced cells as the released guide's own fill.sh prints them over the translation 1551626e8d6a855f… (all of the seat's roots in one cut). By AI agents, Wed Nov 11 2026. No macro, syntax, notation, axiom, sorry.
-/
import Derived.Test.YbulkceouChecked
import GoSem.Claim
import GoSem.ClaimJoined
import GoSem.ClaimMapViews
import Derived.JoinedTies
import Derived.KernelRfl
namespace Go.Proofs.Ybulkceou
/- THE CELL 'sum', in the pinned program and in every row, IS THE sha256 OF THE DUMP (.gsa) THAT YbulkceouProg.lean LOADS. Nothing in Lean hashes anything: it is a label: what it is worth is what the hold of that sum in a sandbox is worth. -/
noncomputable def Yba.pinned : Pinned := { name := "ybulkceou", sum := "1551626e8d6a855f7dc7aa270cb57d38a2a5348070156af01d303e7d58610c5a", checked := Yba.checked }
namespace Rows
def none {H : Type} : Left H := { results := [], args := [] }

/-- 'causeline.LawS4037BPicks': WHATEVER THE INPUT: true; the input reads as it did. -/
def lawS4037BPicksSpec : ChangeSpec := { name := "lawS4037BPicks", fn := fun _ => fun
  | [d1, d2, d3, d4, d5, d6, d7] => { results := [.lit (.bool true)], args := [d1, d2, d3, d4, d5, d6, d7] }
  | _ => none }
def lawS4037BPicksRow : OpenClaim := { program := "ybulkceou", sum := "1551626e8d6a855f7dc7aa270cb57d38a2a5348070156af01d303e7d58610c5a", func := "example.com/causeline/causeline.LawS4037BPicks", spec := "lawS4037BPicks", plainKeys := false, apart := false }
def LawS4037BPicksSaid : Prop := lawS4037BPicksRow.holds Yba.pinned (OpenSpec.ofChange lawS4037BPicksSpec)

/-- ITS FALSE NEIGHBOUR: 'it returns false'. Refute it at one input. -/
def lawS4037BPicksWrong : ChangeSpec := { name := "lawS4037BPicks", fn := fun _ => fun
  | [d1, d2, d3, d4, d5, d6, d7] => { results := [.lit (.bool false)], args := [d1, d2, d3, d4, d5, d6, d7] }
  | _ => none }
def LawS4037BPicksWrongFalsely : Prop := lawS4037BPicksRow.holds Yba.pinned (OpenSpec.ofChange lawS4037BPicksWrong)

end Rows
end Go.Proofs.Ybulkceou
