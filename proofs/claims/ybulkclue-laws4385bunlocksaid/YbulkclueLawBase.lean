/- The law, base: its body in pieces; comparisons of locks. -/
import Derived.Test.YbulkclueUnlock
namespace Go.Proofs.Ybulkclue.Law
set_option linter.unusedVariables false
set_option maxRecDepth 100000
open Go.RowKit Go.Proofs.Ybulkclue.Leaves Go.Proofs.Ybulkclue.Forget

/-- What is left of a sequence behind its first n statements. -/
def restOf : Nat → Code → Code
  | 0, c => c
  | n + 1, .seq _ b => restOf n b
  | _ + 1, c => c

/-- The first statement of a sequence. -/
def headOf : Code → Code
  | .seq a _ => a
  | c => c

theorem neq_lock_same (a : Addr) (w : World) : (binOp .neq 34 (.pointer (some a)) (.pointer (some a))).run Yba.prog w = .ok (.bool false) w := by
  obtain ⟨j, hj⟩ := Option.isSome_iff_exists.1 (show (Yba.prog.info? 50).isSome = true by kernel_rfl)
  have h : ∀ d : Nat, (Op.equalIn (d + 1) 34 (.pointer (some a)) (.pointer (some a))).run Yba.prog w = .ok true w := fun d => by
    simp [Op.equalIn, run_underlying Yba.underlying34, sizeOf, typeInfo, hj, run_sameAddr_same]
  simp only [binOp]
  simp [Op.equal, Op.maxDepth, h 9999]

end Go.Proofs.Ybulkclue.Law
