/-
  No cell of these rows narrows 'for every input' (looked for: loops, veiled, ifaces, maps, wideKeys, modest, calm, conditions, laid).
  DERIVED. THE GIVEN ROWS OF THIS SEAT. 2 by the template 'for every input the law returns true; each argument reads behind the call as it read before'; 0 by the template 'total and deterministic' (their statements: YbulkclvgTotals.lean).
  GIVEN WITH THE SEED: the statements are not yours to turn. If you find one false, say at which input.
  Laid BY PROGRAM, IN A SANDBOX (cutbox-rows.mjs): the forced cells as the released guide's own fill.sh prints them over the translation 4bc2b0510bceaace… (all of the seat's roots in one cut). By AI agents, Wed Nov 11 2026. No macro, syntax, notation, axiom, sorry.
-/
import Derived.Test.YbulkclvgChecked
import GoSem.Claim
import GoSem.ClaimJoined
import GoSem.ClaimMapViews
import Derived.JoinedTies
import Derived.KernelRfl
namespace Go.Proofs.Ybulkclvg
/- THE CELL 'sum', in the pinned program and in every row, IS THE sha256 OF THE DUMP (.gsa) THAT YbulkclvgProg.lean LOADS. Nothing in Lean hashes anything: it is a label: what it is worth is what the hold of that sum in a sandbox is worth. -/
noncomputable def Yba.pinned : Pinned := { name := "ybulkclvg", sum := "4bc2b0510bceaacefeab1650bcbff11695f990e58724cf2867dbbb2f83437fa0", checked := Yba.checked }
namespace Rows
def none {H : Type} : Left H := { results := [], args := [] }

/-- 'supervise.LawS4387CExact': WHATEVER THE INPUT: true; the input reads as it did. -/
def lawS4387CExactSpec : ChangeSpec := { name := "lawS4387CExact", fn := fun _ => fun
  | [d1, d2, d3] => { results := [.lit (.bool true)], args := [d1, d2, d3] }
  | _ => none }
def lawS4387CExactRow : OpenClaim := { program := "ybulkclvg", sum := "4bc2b0510bceaacefeab1650bcbff11695f990e58724cf2867dbbb2f83437fa0", func := "example.com/podwright/podwright/supervise.LawS4387CExact", spec := "lawS4387CExact", apart := false }
def LawS4387CExactSaid : Prop := lawS4387CExactRow.holds Yba.pinned (OpenSpec.ofChange lawS4387CExactSpec)

/-- ITS FALSE NEIGHBOUR: 'it returns false'. Refute it at one input. -/
def lawS4387CExactWrong : ChangeSpec := { name := "lawS4387CExact", fn := fun _ => fun
  | [d1, d2, d3] => { results := [.lit (.bool false)], args := [d1, d2, d3] }
  | _ => none }
def LawS4387CExactWrongFalsely : Prop := lawS4387CExactRow.holds Yba.pinned (OpenSpec.ofChange lawS4387CExactWrong)

/-- 'supervise.LawS4387COnlyPhase': WHATEVER THE INPUT: true; the input reads as it did. -/
def lawS4387COnlyPhaseSpec : ChangeSpec := { name := "lawS4387COnlyPhase", fn := fun _ => fun
  | [d1, d2, d3, d4, d5, d6, d7, d8, d9] => { results := [.lit (.bool true)], args := [d1, d2, d3, d4, d5, d6, d7, d8, d9] }
  | _ => none }
def lawS4387COnlyPhaseRow : OpenClaim := { program := "ybulkclvg", sum := "4bc2b0510bceaacefeab1650bcbff11695f990e58724cf2867dbbb2f83437fa0", func := "example.com/podwright/podwright/supervise.LawS4387COnlyPhase", spec := "lawS4387COnlyPhase", apart := false }
def LawS4387COnlyPhaseSaid : Prop := lawS4387COnlyPhaseRow.holds Yba.pinned (OpenSpec.ofChange lawS4387COnlyPhaseSpec)

/-- ITS FALSE NEIGHBOUR: 'it returns false'. Refute it at one input. -/
def lawS4387COnlyPhaseWrong : ChangeSpec := { name := "lawS4387COnlyPhase", fn := fun _ => fun
  | [d1, d2, d3, d4, d5, d6, d7, d8, d9] => { results := [.lit (.bool false)], args := [d1, d2, d3, d4, d5, d6, d7, d8, d9] }
  | _ => none }
def LawS4387COnlyPhaseWrongFalsely : Prop := lawS4387COnlyPhaseRow.holds Yba.pinned (OpenSpec.ofChange lawS4387COnlyPhaseWrong)

end Rows
end Go.Proofs.Ybulkclvg
