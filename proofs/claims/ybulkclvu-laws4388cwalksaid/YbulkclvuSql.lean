/- (*parser).next: the token at the place, and the place behind it. -/
import Derived.Test.YbulkclvuMem
import Derived.RegionTactic
namespace Go.Proofs.Ybulkclvu.Sql
set_option linter.unusedVariables false
open Go.RowKit Go.Proofs.Ybulkclvu.Mem

theorem next_end (pb g n cap i : Nat) (S : ByteArray) (w : World) (hi : i < n) (hn : n ≤ 2000)
    (p0 : w.cell? ⟨pb, 0, none⟩ = some (.slice (some ⟨g, 0, none⟩) n cap)) (p1 : w.cell? ⟨pb, 1, none⟩ = some (.int .i64 i))
    (t0 : w.cell? ⟨g, i * 2, none⟩ = some (.int .u8 0)) (t1 : w.cell? ⟨g, i * 2 + 1, none⟩ = some (.string S)) :
    Calls Yba.prog 10 #[.pointer (some ⟨pb, 0, none⟩)] w fun e w' => e = .returned (.agg #[.int .u8 0, .string S]) ∧
      w' = ((w.alloc (.cells #[.int .u8 0, .string S] 81)).alloc (.cells #[.int .u8 0, .string S] 81)).drew := by
  have hpl : pb < w.heap.size := World.block_lt_of_cell? _ _ p0
  have hgl : g < w.heap.size := World.block_lt_of_cell? _ _ t0
  go_enter Yba.func10, Yba.ntmps10
  go_wp2
  go_region
  go_wp2
  exact bodyPost_ret (v := .agg #[.int .u8 0, .string S]) (by simp [results, Yba.results10, go_sem]) rfl ⟨rfl, rfl⟩

theorem next_more (pb g n cap i : Nat) (K : Int) (S : ByteArray) (w : World) (hi : i < n) (hn : n ≤ 2000) (hK : (K != 0) = true) (f1 : w.frozen? ⟨pb, 1, none⟩ = false)
    (p0 : w.cell? ⟨pb, 0, none⟩ = some (.slice (some ⟨g, 0, none⟩) n cap)) (p1 : w.cell? ⟨pb, 1, none⟩ = some (.int .i64 i))
    (t0 : w.cell? ⟨g, i * 2, none⟩ = some (.int .u8 K)) (t1 : w.cell? ⟨g, i * 2 + 1, none⟩ = some (.string S)) :
    Calls Yba.prog 10 #[.pointer (some ⟨pb, 0, none⟩)] w fun e w' => e = .returned (.agg #[.int .u8 K, .string S]) ∧
      w' = (((w.setCell ⟨pb, 1, none⟩ (.int .i64 ((i : Int) + 1))).alloc (.cells #[.int .u8 K, .string S] 81)).alloc (.cells #[.int .u8 K, .string S] 81)).drew := by
  have hpl : pb < w.heap.size := World.block_lt_of_cell? _ _ p0
  have hgl : g < w.heap.size := World.block_lt_of_cell? _ _ t0
  go_enter Yba.func10, Yba.ntmps10
  go_wp2
  go_region
  go_wp2
  exact bodyPost_ret (v := .agg #[.int .u8 K, .string S]) (by simp [results, Yba.results10, go_sem]) rfl ⟨rfl, rfl⟩

theorem next_any (pb g n cap i : Nat) (K : Int) (S : ByteArray) (w : World) (hi : i < n) (hn : n ≤ 2000) (hty : Ty w pb 78)
    (p0 : w.cell? ⟨pb, 0, none⟩ = some (.slice (some ⟨g, 0, none⟩) n cap)) (p1 : w.cell? ⟨pb, 1, none⟩ = some (.int .i64 i))
    (t0 : w.cell? ⟨g, i * 2, none⟩ = some (.int .u8 K)) (t1 : w.cell? ⟨g, i * 2 + 1, none⟩ = some (.string S)) :
    Calls Yba.prog 10 #[.pointer (some ⟨pb, 0, none⟩)] w fun e w' => e = .returned (.agg #[.int .u8 K, .string S]) ∧
      Un (fun b o => b = pb ∧ o = 1) w w' ∧ w'.cell? ⟨pb, 1, none⟩ = some (.int .i64 ((if K = 0 then i else i + 1 : Nat) : Int)) := by
  have hlt := World.block_lt_of_cell? _ _ p1
  by_cases hK : K = 0
  · subst hK
    refine (next_end pb g n cap i S w hi hn p0 p1 t0 t1).mono ?_
    rintro e w' ⟨rfl, rfl⟩
    refine ⟨rfl, (((Un.refl _ _).alloc _).alloc _).drew, ?_⟩
    rw [if_pos rfl]
    exact same_new _ _ _ _ (same_new _ _ _ _ p1)
  · refine (next_more pb g n cap i K S w hi hn (by simpa using hK) (hty.frozen 1) p0 p1 t0 t1).mono ?_
    rintro e w' ⟨rfl, rfl⟩
    refine ⟨rfl, ((((Un.refl _ _).set ⟨rfl, rfl⟩ _).alloc _).alloc _).drew, ?_⟩
    rw [if_neg hK]
    exact same_new _ _ _ _ (same_new _ _ _ _ (hit _ _ p1))

end Go.Proofs.Ybulkclvu.Sql
