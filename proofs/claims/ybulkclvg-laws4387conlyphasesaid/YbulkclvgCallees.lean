/- The contracts of the three callees of both laws: the phase that is chosen, the outcome of a record, the outcome that is wanted. -/
import Derived.Test.YbulkclvgRows
import Derived.WalkKit
namespace Go.Proofs.Ybulkclvg.Callees
open Go.RowKit

/-- The outcome that a phase stands for: 0 (succeeded) or 1 (failed). -/
def want (p : ByteArray) : Int := if p.toList == [83, 117, 99, 99, 101, 101, 100, 101, 100] then 0 else 1

theorem phase_any (a0 : Int) (a1 : ByteArray) (a2 : Bool) (w : World) :
    Calls Yba.prog 5 #[.int .u8 a0, .string a1, .bool a2] w fun e w' => (∃ p, e = .returned (.string p)) ∧ w' = w := by
  go_enter Yba.func5, Yba.ntmps5
  go_wp2
  all_goals
    go_ret
    exact ⟨⟨_, rfl⟩, rfl⟩

theorem want_any (p : ByteArray) (w : World) :
    Calls Yba.prog 7 #[.string p] w fun e w' => e = .returned (.int .i64 (want p)) ∧ w' = w := by
  unfold want
  go_enter Yba.func7, Yba.ntmps7
  go_wp2
  all_goals
    go_ret
    exact ⟨rfl, rfl⟩

theorem outcome_any (b : Nat) (p : ByteArray) (w : World) (h : w.cell? ⟨b, 1, none⟩ = some (.string p)) :
    Calls Yba.prog 6 #[.pointer (some ⟨b, 0, none⟩)] w fun e w' => e = .returned (.int .i64 (want p)) ∧ w' = w := by
  unfold want
  go_enter Yba.func6, Yba.ntmps6
  go_wp2
  all_goals
    go_ret
    exact ⟨rfl, rfl⟩

end Go.Proofs.Ybulkclvg.Callees
