/- The walks of both laws: each returns true and makes new blocks alone. -/
import Derived.Test.YbulkclvgCallees
import Derived.LaidEqlPtr
namespace Go.Proofs.Ybulkclvg.LawWalks
open Go.RowKit

theorem want_no_two (p : ByteArray) : (Callees.want p == 2) = false := by
  unfold Callees.want
  split <;> rfl

theorem exact_walk (a0 : Int) (a1 : ByteArray) (a2 : Bool) (w : World) :
    Calls Yba.prog 3 #[.int .u8 a0, .string a1, .bool a2] w fun e w' => e = .returned (.bool true) ∧ Grown w w' := by
  go_enter Yba.func3, Yba.ntmps3
  go_wp2_with fail
  refine (Callees.phase_any _ _ _ _).mono ?_
  rintro e w1 ⟨⟨p, rfl⟩, rfl⟩
  have h2 := want_no_two p
  go_wp2_with fail
  refine (Callees.outcome_any _ p _ (by simp)).mono ?_
  rintro e w2 ⟨rfl, rfl⟩
  go_wp2_with fail
  refine (Callees.want_any _ _).mono ?_
  rintro e w2 ⟨rfl, rfl⟩
  go_wp2
  go_ret
  exact ⟨rfl, by repeat (first | exact Grown.refl _ | apply Grown.drew | apply Grown.alloc)⟩

theorem same_ptr (a : Addr) (w : World) : (binOp .eql 33 (.pointer (some a)) (.pointer (some a))).run Yba.prog w = .ok (.bool true) w := by
  obtain ⟨j, hj⟩ := Option.isSome_iff_exists.1 (show (Yba.prog.info? 41).isSome = true by kernel_rfl)
  exact run_eql_ptr_same w a Yba.underlying33 hj

set_option maxHeartbeats 2000000 in
theorem only_walk (a0 : Int) (a1 : ByteArray) (a2 : Bool) (a3 a4 a5 : Int) (a6 a7 : Bool) (a8 : ByteArray) (w : World) :
    Calls Yba.prog 4 #[.int .u8 a0, .string a1, .bool a2, .int .i64 a3, .int .i64 a4, .int .i64 a5, .bool a6, .bool a7, .string a8] w fun e w' => e = .returned (.bool true) ∧ Grown w w' := by
  have hsame := same_ptr
  go_enter Yba.func4, Yba.ntmps4
  go_wp2_with fail
  refine (Callees.phase_any _ _ _ _).mono ?_
  rintro e w1 ⟨⟨p, rfl⟩, rfl⟩
  go_wp2_with fail
  refine (Callees.outcome_any _ p _ (by simp)).mono ?_
  rintro e w2 ⟨rfl, rfl⟩
  go_wp2_with fail
  refine (Callees.want_any _ _).mono ?_
  rintro e w2 ⟨rfl, rfl⟩
  go_wp2
  go_ret
  exact ⟨rfl, by repeat (first | exact Grown.refl _ | apply Grown.drew | apply Grown.alloc)⟩

end Go.Proofs.Ybulkclvg.LawWalks
