/-
  No cell of these rows narrows 'for every input' (looked for: loops, veiled, ifaces, maps, wideKeys, modest, calm, conditions, laid).
  DERIVED. THE GIVEN ROWS OF THIS SEAT. 3 by the template 'for every input the law returns true; each argument reads behind the call as it read before'; 0 by the template 'total and deterministic' (their statements: YbulkcekmTotals.lean).
  GIVEN WITH THE SEED: the statements are not yours to turn. If you find one false, say at which input.
  Laid BY PROGRAM, IN A SANDBOX (cutbox-rows.mjs): the forced cells as the released guide's own fill.sh prints them over the translation 35b426adf6cfc86b… (all of the seat's roots in one cut). By AI agents, Wed Nov 11 2026. No macro, syntax, notation, axiom, sorry.
-/
import Derived.Test.YbulkcekmChecked
import GoSem.Claim
import GoSem.ClaimJoined
import GoSem.ClaimMapViews
import Derived.JoinedTies
import Derived.KernelRfl
namespace Go.Proofs.Ybulkcekm
/- THE CELL 'sum', in the pinned program and in every row, IS THE sha256 OF THE DUMP (.gsa) THAT YbulkcekmProg.lean LOADS. Nothing in Lean hashes anything: it is a label: what it is worth is what the hold of that sum in a sandbox is worth. -/
noncomputable def Yba.pinned : Pinned := { name := "ybulkcekm", sum := "35b426adf6cfc86b483a0c33d94cf70a5d740ab941e282603a5c52c47bd9d2c2", checked := Yba.checked }
namespace Rows
def none {H : Type} : Left H := { results := [], args := [] }

/-- 'mantissa.LawS4029BReduced': WHATEVER THE INPUT: true; the input reads as it did. -/
def lawS4029BReducedSpec : ChangeSpec := { name := "lawS4029BReduced", fn := fun _ => fun
  | [d1, d2, d3] => { results := [.lit (.bool true)], args := [d1, d2, d3] }
  | _ => none }
def lawS4029BReducedRow : OpenClaim := { program := "ybulkcekm", sum := "35b426adf6cfc86b483a0c33d94cf70a5d740ab941e282603a5c52c47bd9d2c2", func := "example.com/mantissa/mantissa.LawS4029BReduced", spec := "lawS4029BReduced", apart := false }
def LawS4029BReducedSaid : Prop := lawS4029BReducedRow.holds Yba.pinned (OpenSpec.ofChange lawS4029BReducedSpec)

/-- ITS FALSE NEIGHBOUR: 'it returns false'. Refute it at one input. -/
def lawS4029BReducedWrong : ChangeSpec := { name := "lawS4029BReduced", fn := fun _ => fun
  | [d1, d2, d3] => { results := [.lit (.bool false)], args := [d1, d2, d3] }
  | _ => none }
def LawS4029BReducedWrongFalsely : Prop := lawS4029BReducedRow.holds Yba.pinned (OpenSpec.ofChange lawS4029BReducedWrong)

/-- 'mantissa.LawS4029BModel': WHATEVER THE INPUT: true; the input reads as it did. -/
def lawS4029BModelSpec : ChangeSpec := { name := "lawS4029BModel", fn := fun _ => fun
  | [d1, d2, d3] => { results := [.lit (.bool true)], args := [d1, d2, d3] }
  | _ => none }
def lawS4029BModelRow : OpenClaim := { program := "ybulkcekm", sum := "35b426adf6cfc86b483a0c33d94cf70a5d740ab941e282603a5c52c47bd9d2c2", func := "example.com/mantissa/mantissa.LawS4029BModel", spec := "lawS4029BModel", apart := false }
def LawS4029BModelSaid : Prop := lawS4029BModelRow.holds Yba.pinned (OpenSpec.ofChange lawS4029BModelSpec)

/-- ITS FALSE NEIGHBOUR: 'it returns false'. Refute it at one input. -/
def lawS4029BModelWrong : ChangeSpec := { name := "lawS4029BModel", fn := fun _ => fun
  | [d1, d2, d3] => { results := [.lit (.bool false)], args := [d1, d2, d3] }
  | _ => none }
def LawS4029BModelWrongFalsely : Prop := lawS4029BModelRow.holds Yba.pinned (OpenSpec.ofChange lawS4029BModelWrong)

/-- 'mantissa.LawS4029CEscape': WHATEVER THE INPUT: true; the input reads as it did. -/
def lawS4029CEscapeSpec : ChangeSpec := { name := "lawS4029CEscape", fn := fun _ => fun
  | [d1, d2, d3, d4] => { results := [.lit (.bool true)], args := [d1, d2, d3, d4] }
  | _ => none }
def lawS4029CEscapeRow : OpenClaim := { program := "ybulkcekm", sum := "35b426adf6cfc86b483a0c33d94cf70a5d740ab941e282603a5c52c47bd9d2c2", func := "example.com/mantissa/mantissa.LawS4029CEscape", spec := "lawS4029CEscape", apart := false }
def LawS4029CEscapeSaid : Prop := lawS4029CEscapeRow.holds Yba.pinned (OpenSpec.ofChange lawS4029CEscapeSpec)

/-- ITS FALSE NEIGHBOUR: 'it returns false'. Refute it at one input. -/
def lawS4029CEscapeWrong : ChangeSpec := { name := "lawS4029CEscape", fn := fun _ => fun
  | [d1, d2, d3, d4] => { results := [.lit (.bool false)], args := [d1, d2, d3, d4] }
  | _ => none }
def LawS4029CEscapeWrongFalsely : Prop := lawS4029CEscapeRow.holds Yba.pinned (OpenSpec.ofChange lawS4029CEscapeWrong)

end Rows
end Go.Proofs.Ybulkcekm
