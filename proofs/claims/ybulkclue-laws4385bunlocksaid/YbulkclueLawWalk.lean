/- The walk of the law, whole. -/
import Derived.Test.YbulkclueChain
namespace Go.Proofs.Ybulkclue.Law
set_option linter.unusedVariables false
set_option linter.unusedSimpArgs false
set_option maxRecDepth 100000
open Go.RowKit Go.Proofs.Ybulkclue.Leaves Go.Proofs.Ybulkclue.Forget Go.Proofs.Ybulkclue.Mem Go.Proofs.Ybulkclue.Steps Go.Proofs.Ybulkclue.Join

set_option maxHeartbeats 4000000 in
theorem law_walk (a0 : Bool) (a1 a2 a3 a4 a5 a6 a7 a8 : Int) (w : World) (no p : Nat) (h10 : 0 ≤ a1) (h11 : a1 ≤ 255) (h20 : 0 ≤ a2) (h21 : a2 ≤ 255) (h30 : 0 ≤ a3) (h31 : a3 ≤ 255) (h40 : 0 ≤ a4) (h41 : a4 ≤ 255) (h50 : 0 ≤ a5) (h51 : a5 ≤ 255) (h60 : 0 ≤ a6) (h61 : a6 ≤ 65535) (h70 : 0 ≤ a7) (h71 : a7 ≤ 65535)
    (h80 : 0 ≤ a8) (h81 : a8 ≤ 18446744073709551615) (hno : a3 % 4 = (no : Int)) (hp : a4 % ((no : Int) + 1) = (p : Int)) (hno3 : no ≤ 3) (hpn : p ≤ no) :
    Calls Yba.prog 3 #[.bool a0, .int .u8 a1, .int .u8 a2, .int .u8 a3, .int .u8 a4, .int .u8 a5, .int .u16 a6, .int .u16 a7, .int .u64 a8] w fun e w' => e = .returned (.bool true) ∧ Below w.heap.size w w' := by
  have hm8 := make_eight
  have hz39 := zero39
  have hz72 : ¬ shZero.size < 3 := by rw [shZero_size]; decide
  have hmk := make_items no (by omega)
  obtain ⟨i33, hi33, hz0, hz1, hz2⟩ := info_parts info33
  go_enter Yba.func3, Yba.ntmps3
  go_upto_block 0 with fail
  rw [hno, hp]
  clear hno hp hm8 hz39 hz72 hmk
  refine forget_world (fun W => L1 w W no p 0 a8) (L1_start w no p a8) ?_
  intro W hL
  rw [show w.heap.size + 1 + 1 + 1 = w.heap.size + 3 from rfl, show w.heap.size + 1 + 1 = w.heap.size + 2 from rfl]
  go_wp2_with fail
  go_loopg [23, 24, 25] (no + 1) (fun gk ch j i wr => ∃ (q : Nat) (jj : Int), q + gk = no + 1 ∧ i = .int .i64 q ∧ j = .int .i64 jj ∧ 0 ≤ jj ∧ jj ≤ q ∧ ch = .slice (some ⟨w.heap.size + 3, 0, none⟩) q (no + 1) ∧ L1 w wr no p q a8)
  case atStart => exact ⟨0, 0, by omega, rfl, rfl, by omega, by omega, rfl, hL⟩
  case round =>
    obtain ⟨q, jj, hq, rfl, rfl, hj0, hj1, rfl, L⟩ := hrel
    have HL : Hid (L1 w wr no p q a8) := L
    have hge : w.heap.size + 4 ≤ wr.heap.size := by have := L.size; split at this <;> omega
    obtain ⟨cs, hcs, hcn, hcj⟩ := L.b3
    have HH : Hid (wr.heap[w.heap.size + 3]? = some (.cells cs 33 (0, 0))) := hcs
    have HN : Hid (cs.size = no + 1) := hcn
    have hWs : w.heap.size + 3 < wr.heap.size := by omega
    clear L hcs hcn hcj
    by_cases hlt : q < no + 1
    · by_cases hqp : q = p
      · subst hqp
        go_wp2_with (at_builtin; refine wpList_append_one _ rfl _ _ 25 rfl 33 i33 Yba.underlying25 hi33 hz1 (w.heap.size + 3) _ _ cs rfl ⟨wr.heap.size, 0, none⟩ 1 rfl ?qa HN.out hlt (.pointer (some ⟨w.heap.size + 2, 0, none⟩)) ?qc rfl ?qd)
        case qa => rw [Below.heap_alloc _ _ _ hWs]; exact HH.out
        case qc => simp
        go_wp2
        go_roundg (gk - 1)
        case measure => omega
        case rel => exact ⟨q + 1, jj, by omega, by go_num, rfl, hj0, by omega, rfl, L1_item HL.out hlt rfl _⟩
      · have hb : ((q : Int) == (p : Int)) = false := by rw [beq_eq_false_iff_ne]; omega
        go_wp2_with (at_builtin; refine wpList_append_one _ rfl _ _ 25 rfl 33 i33 Yba.underlying25 hi33 hz1 (w.heap.size + 3) _ _ cs rfl ⟨wr.heap.size + 1, 0, none⟩ 1 rfl ?ra HN.out hlt (.pointer (some ⟨wr.heap.size, 0, none⟩)) ?rc rfl ?rd)
        case ra => rw [Below.heap_alloc _ _ _ (by simp; omega), Below.heap_alloc _ _ _ hWs]; exact HH.out
        case rc => simp
        go_wp2
        go_roundg (gk - 1)
        case measure => omega
        case rel => exact ⟨q + 1, jj + 1, by omega, by go_num, rfl, by omega, by omega, rfl, L1_other HL.out hlt hqp _⟩
    · obtain rfl : q = no + 1 := by omega
      go_upto_block 2 with fail
      go_wp2_with fail
      go_loopg [26] no (fun gk i wr => ∃ q : Nat, q + gk = no ∧ i = .int .i64 q ∧ L2 w wr no p q a8)
      case atStart => exact ⟨0, by omega, rfl, L2_start HL.out⟩
      case round =>
        obtain ⟨q, hq2, rfl, L⟩ := hrel
        have HL2 := show Hid _ from L
        by_cases hlt2 : q < no
        · obtain ⟨cs2, hcs2, hcn2, hcj2⟩ := L.b3
          have c1 : wr.cell? ⟨w.heap.size + 3, q, none⟩ = some (.pointer (some ⟨cF w.heap.size p q, 0, none⟩)) := by rw [cell_of_row wr _ q _ 33 (0, 0) hcs2]; exact hcj2 q (by omega)
          have c2 : wr.cell? ⟨w.heap.size + 3, q + 1, none⟩ = some (.pointer (some ⟨cF w.heap.size p (q + 1), 0, none⟩)) := by rw [cell_of_row wr _ (q + 1) _ 33 (0, 0) hcs2]; exact hcj2 (q + 1) (by omega)
          have c3 : wr.cell? ⟨cF w.heap.size p q, 3, none⟩ = some (.pointer (if q < q then some ⟨cF w.heap.size p (q + 1), 0, none⟩ else none)) := by rw [cell_of_row wr _ 3 _ 47 (0, 0) (L.items q (by omega))]; exact (itemC_cell _ _ _ _).2.2.2.1
          rw [if_neg (Nat.lt_irrefl q)] at c3
          have c4 : wr.frozen? ⟨cF w.heap.size p q, 3, none⟩ = false := Ty.frozen ⟨_, L.items q (by omega)⟩ 3
          clear L hcs2 hcn2 hcj2
          go_wp2
          go_region
          go_wp2
          go_roundg (gk - 1)
          case measure => omega
          case rel => exact ⟨q + 1, by omega, by go_num, L2_step HL2.out hlt2⟩
        · obtain rfl : q = no := by omega
          clear L
          go_upto_region 18 with fail
          obtain ⟨R, A⟩ := L2_done HL2.out hno3 hpn h80 h81
          exact from9 w.heap.size w wr _ _ _ _ _ _ _ _ _ _ _ _ _ _ _ _ _ _ _ _ _ _ _ _ _ _ _ _ _ _ _ _ _ _ _ _ _ _ _ _ _ _ _ _ _ _ _ _ _ _ _ _ _ _ _ _ _ _ _ _ _ _ _ _ _ _ _ _ _ _ _ _ _ _ _ _ _ _ _ _ _ _ _ _ _ _ _ _ _ _ _ _ _ _ _ _ _ _ _ _ _ _ _ _ _ _ _ _ _ _ _ _ _ _ _ _ _ _ _ _ _ _ _ _ _ _ _ _ _ _ _ _ _ _ _ _ _ _ _ _ _ _ _ _ _ _ _ _ _ _ _ _ _ _ _ _ _ _ _ _ _ _ _ _ _ _ _ _ _ _ _ _ _ _ _ _ _ _ _ _ _ _ _ _ _ _ _ _ _ _ _ _ _ _ _ _ _ _ _ _ _ _ _ _ _ _ _ _ _ _ _ _ _ _ _ _ _ _ _ _ _ _ _ _ _ _ _ _ _ _ _ _ _ _ _ _ _ _ _ _ _ _ _ _ _ _ _ _ _ _ _ _ _ _ _ _ _ _ _ _ _ _ _ _ _ _ _ _ _ _ _ _ _ _ _ _ _ _ _ _ _ _ _ _ _ _ _ _ _ _ _ _ _ _ _ _ _ _ _ _ _ _ _ _ _ _ _ _ _ _ _ _ _ _ _ _ _ _ _ _ _ _ _ _ _ _ _ _ _ _ _ _ _ _ _ _ _ _ _ _ _ _ _ _ _ _ _ _ _ _ _ _ _ _ _ _ _ _ _ _ _ _ _ _ _ _ _ _ _ _ _ _ _ _ _ _ _ _ _ _ _ _ _ _ _ _ _ _ _ _ _ _ _ _ _ _ _ _ _ _ _ _ _ _ _ _ _ _ _ _ _ _ _ _ _ _ _ _ _ _ _ _ _ _ _ _ _ _ _ _ _ _ _ _ _ _ _ _ _ _ _ _ _ _ _ _ _ _ _ _ _ _ _ _ _ _ _ _ _ _ _ _ _ _ _ _ _ _ _ _ _ _ _ _ _ _ _ _ _ _ _ _ _ _ _ _ _ _ _ _ _ _ _ _ _ _ _ _ _ _ _ _ _ _ _ _ _ _ _ _ _ _ _ _ _ _ _ _ _ _ _ _ _ _ _ _ a0 a1 a2 a5 a6 a7 a8 w.heap.size (w.heap.size + 1) (w.heap.size + 2) (w.heap.size + 3) q p (cF w.heap.size p) h10 h11 h20 h21 h50 h51 h60 h61 h70 h71 R A HL2.out.below HL2.out.size _ (fun _ _ h => by go_step; exact h)
end Go.Proofs.Ybulkclue.Law
