/-
  No cell of these rows narrows 'for every input' (looked for: loops, veiled, ifaces, maps, wideKeys, modest, calm, conditions, laid).
  DERIVED. THE GIVEN ROWS OF THIS SEAT. 4 by the template 'for every input the law returns true; each argument reads behind the call as it read before'; 0 by the template 'total and deterministic' (their statements: YbulkclvuTotals.lean).
  GIVEN WITH THE SEED: the statements are not yours to turn. If you find one false, say at which input.
  Laid BY PROGRAM, IN A SANDBOX (cutbox-rows.mjs): the forced cells as the released guide's own fill.sh prints them over the translation 62243dcb39ffab6a… (all of the seat's roots in one cut). By AI agents, Wed Nov 11 2026. No macro, syntax, notation, axiom, sorry.
-/
import Derived.Test.YbulkclvuChecked
import GoSem.Claim
import GoSem.ClaimJoined
import GoSem.ClaimMapViews
import Derived.JoinedTies
import Derived.KernelRfl
namespace Go.Proofs.Ybulkclvu
/- THE CELL 'sum', in the pinned program and in every row, IS THE sha256 OF THE DUMP (.gsa) THAT YbulkclvuProg.lean LOADS. Nothing in Lean hashes anything: it is a label: what it is worth is what the hold of that sum in a sandbox is worth. -/
noncomputable def Yba.pinned : Pinned := { name := "ybulkclvu", sum := "62243dcb39ffab6a162a4168170a620ce234a1af6818b022bcbe19d8c28e1950", checked := Yba.checked }
namespace Rows
def none {H : Type} : Left H := { results := [], args := [] }

/-- 'keyfence.LawS4388BOrder': WHATEVER THE INPUT: true; the input reads as it did. -/
def lawS4388BOrderSpec : ChangeSpec := { name := "lawS4388BOrder", fn := fun _ => fun
  | [d] => { results := [.lit (.bool true)], args := [d] }
  | _ => none }
def lawS4388BOrderRow : OpenClaim := { program := "ybulkclvu", sum := "62243dcb39ffab6a162a4168170a620ce234a1af6818b022bcbe19d8c28e1950", func := "example.com/keyfence/keyfence.LawS4388BOrder", spec := "lawS4388BOrder", apart := false }
def LawS4388BOrderSaid : Prop := lawS4388BOrderRow.holds Yba.pinned (OpenSpec.ofChange lawS4388BOrderSpec)

/-- ITS FALSE NEIGHBOUR: 'it returns false'. Refute it at one input. -/
def lawS4388BOrderWrong : ChangeSpec := { name := "lawS4388BOrder", fn := fun _ => fun
  | [d] => { results := [.lit (.bool false)], args := [d] }
  | _ => none }
def LawS4388BOrderWrongFalsely : Prop := lawS4388BOrderRow.holds Yba.pinned (OpenSpec.ofChange lawS4388BOrderWrong)

/-- 'keyfence.LawS4388BKeeps': WHATEVER THE INPUT: true; the input reads as it did. -/
def lawS4388BKeepsSpec : ChangeSpec := { name := "lawS4388BKeeps", fn := fun _ => fun
  | [d1, d2] => { results := [.lit (.bool true)], args := [d1, d2] }
  | _ => none }
def lawS4388BKeepsRow : OpenClaim := { program := "ybulkclvu", sum := "62243dcb39ffab6a162a4168170a620ce234a1af6818b022bcbe19d8c28e1950", func := "example.com/keyfence/keyfence.LawS4388BKeeps", spec := "lawS4388BKeeps", apart := false }
def LawS4388BKeepsSaid : Prop := lawS4388BKeepsRow.holds Yba.pinned (OpenSpec.ofChange lawS4388BKeepsSpec)

/-- ITS FALSE NEIGHBOUR: 'it returns false'. Refute it at one input. -/
def lawS4388BKeepsWrong : ChangeSpec := { name := "lawS4388BKeeps", fn := fun _ => fun
  | [d1, d2] => { results := [.lit (.bool false)], args := [d1, d2] }
  | _ => none }
def LawS4388BKeepsWrongFalsely : Prop := lawS4388BKeepsRow.holds Yba.pinned (OpenSpec.ofChange lawS4388BKeepsWrong)

/-- 'sql.LawS4388CStep': WHATEVER THE INPUT: true; the input reads as it did. -/
def lawS4388CStepSpec : ChangeSpec := { name := "lawS4388CStep", fn := fun _ => fun
  | [d1, d2, d3] => { results := [.lit (.bool true)], args := [d1, d2, d3] }
  | _ => none }
def lawS4388CStepRow : OpenClaim := { program := "ybulkclvu", sum := "62243dcb39ffab6a162a4168170a620ce234a1af6818b022bcbe19d8c28e1950", func := "example.com/keyfence/keyfence/internal/sql.LawS4388CStep", spec := "lawS4388CStep", apart := false }
def LawS4388CStepSaid : Prop := lawS4388CStepRow.holds Yba.pinned (OpenSpec.ofChange lawS4388CStepSpec)

/-- ITS FALSE NEIGHBOUR: 'it returns false'. Refute it at one input. -/
def lawS4388CStepWrong : ChangeSpec := { name := "lawS4388CStep", fn := fun _ => fun
  | [d1, d2, d3] => { results := [.lit (.bool false)], args := [d1, d2, d3] }
  | _ => none }
def LawS4388CStepWrongFalsely : Prop := lawS4388CStepRow.holds Yba.pinned (OpenSpec.ofChange lawS4388CStepWrong)

/-- 'sql.LawS4388CWalk': WHATEVER THE INPUT: true; the input reads as it did. -/
def lawS4388CWalkSpec : ChangeSpec := { name := "lawS4388CWalk", fn := fun _ => fun
  | [d1, d2] => { results := [.lit (.bool true)], args := [d1, d2] }
  | _ => none }
def lawS4388CWalkRow : OpenClaim := { program := "ybulkclvu", sum := "62243dcb39ffab6a162a4168170a620ce234a1af6818b022bcbe19d8c28e1950", func := "example.com/keyfence/keyfence/internal/sql.LawS4388CWalk", spec := "lawS4388CWalk", apart := false }
def LawS4388CWalkSaid : Prop := lawS4388CWalkRow.holds Yba.pinned (OpenSpec.ofChange lawS4388CWalkSpec)

/-- ITS FALSE NEIGHBOUR: 'it returns false'. Refute it at one input. -/
def lawS4388CWalkWrong : ChangeSpec := { name := "lawS4388CWalk", fn := fun _ => fun
  | [d1, d2] => { results := [.lit (.bool false)], args := [d1, d2] }
  | _ => none }
def LawS4388CWalkWrongFalsely : Prop := lawS4388CWalkRow.holds Yba.pinned (OpenSpec.ofChange lawS4388CWalkWrong)

end Rows
end Go.Proofs.Ybulkclvu
