/- LawS4388CStep's walk. -/
import Derived.Test.YbulkclvuBuild
import Derived.BigQuiet
import Derived.Deep.QuietTactic
namespace Go.Proofs.Ybulkclvu.Sql
set_option linter.unusedVariables false
open Go.RowKit Go.Proofs.Ybulkclvu.Mem

theorem forget_world {P : Program} {c : Code} {Q : Exit → Act → World → Prop} {a : Act} {w : World} (R : World → Prop) (h : R w) (k : ∀ w, R w → c.wp P Q a w) : c.wp P Q a w := k w h

structure RowSet (g : Nat) (w w' : World) : Prop where
  os : w'.os = w.os
  tape : w'.tape = w.tape
  output : w'.output = w.output
  size : w'.heap.size = w.heap.size
  other : ∀ b, b ≠ g → w'.heap[b]? = w.heap[b]?

theorem un_row {T : Nat → Nat → Prop} {w V V' : World} {g : Nat} (h : Un T w V) (hg : w.heap.size ≤ g) (hr : RowSet g V V') : Un T w V' where
  size := by rw [hr.size]; exact h.size
  cell := fun b o hb hn => by
    rw [World.cell?_of_block (w := V) (a := ⟨b, o, none⟩) (hr.other b (by omega))]
    exact h.cell b o hb hn
  ty := fun b t ht => by
    obtain ⟨cs, hc⟩ := h.ty b t ht
    exact ⟨cs, by rw [hr.other b (by have := ht.lt; omega)]; exact hc⟩
  below := fun B hB hTB => ⟨hr.os.trans (h.below B hB hTB).os, hr.tape.trans (h.below B hB hTB).tape, hr.output.trans (h.below B hB hTB).output, by rw [hr.size]; exact (h.below B hB hTB).size, fun b hb => by rw [hr.other b (by omega)]; exact (h.below B hB hTB).block b hb⟩

theorem run_copy_two {P : Program} (w : World) (T ty e : TypeId) (i : TypeInfo) (hu : P.underlying T = some (.slice e)) (hi : P.info? e = some i) (hs : i.size = 2)
    (g s n c c' : Nat) (cur src : Array Value) (t t' : TypeId) (hg : w.heap[g]? = some (.cells cur t (0, 0))) (hc : cur.size = n * 2) (hr : w.heap[s]? = some (.cells src t' (0, 0))) (hz : src.size = n * 2)
    (h1 : ∀ v ∈ src.toList, v.oneCell' = true) :
    (Builtin.copy_ #[T, T] ty #[.slice (some ⟨g, 0, none⟩) n c, .slice (some ⟨s, 0, none⟩) n c']).run P w = .ok (goInt n) (w.setRow g src) := by
  have hl := run_loadCells_list (P := P) w ⟨s, 0, none⟩ src.toList (fun j v hj => by
    rw [addr_add0, cell_of_row _ s j src t' (0, 0) hr]
    simpa using hj)
  have hst := run_storeCells_at P g 0 t src.toList 0 cur w hg (by simp; omega) h1
  have e1 : (cur.toList.take (0 + 0) ++ src.toList ++ cur.toList.drop (0 + 0 + src.toList.length)).toArray = src := by
    rw [List.drop_of_length_le (by simp; omega)]
    simp
  rw [e1] at hst
  have hz' : n * 2 = src.toList.length := by simp [hz]
  simp [Builtin.copy_, run_underlying hu, Builtin.lenOf, Builtin.firstCells, sizeOf, typeInfo, hi, hs]
  rw [hz', hl]
  simp [hst]

theorem wpList_copy_two {P : Program} {w : World} {ops : Array Oper} {rest : List Oper} {o : Oper} {a : Act} {Q : Exit → Act → World → Prop} (hgd : o.guard = none) (d x : Operand) (T : TypeId)
    (ho : o.op = .call { callee := .builtin .copy, args := #[d, x], argTypes := #[T, T] }) (e : TypeId) (i : TypeInfo) (hu : P.underlying T = some (.slice e)) (hi : P.info? e = some i) (hs : i.size = 2)
    (g s n c c' : Nat) (hd : a.eval d = .slice (some ⟨g, 0, none⟩) n c) (hx : a.eval x = .slice (some ⟨s, 0, none⟩) n c')
    (cur src : Array Value) (t t' : TypeId) (hg : w.heap[g]? = some (.cells cur t (0, 0))) (hc : cur.size = n * 2) (hr : w.heap[s]? = some (.cells src t' (0, 0))) (hz : src.size = n * 2)
    (h1 : ∀ v ∈ src.toList, v.oneCell' = true)
    (h : ∀ w', w'.heap[g]? = some (.cells src t (0, 0)) → RowSet g w w' → wpList P ops Q rest (a.put o.dst (goInt n)) w') : wpList P ops Q (o :: rest) a w := by
  refine wpList_plain hgd fun K hK' => ?_
  have hrun := run_copy_two (P := P) w T o.type e i hu hi hs g s n c c' cur src t t' hg hc hr hz h1
  unfold Oper.wp
  simp [execOp, ho, resolve, invoke, builtin, hd, hx, hrun, Result.andThen]
  exact hK' _ _ (h _ (setRow_heap w g cur src t (0, 0) hg) ⟨rfl, rfl, rfl, by simp [World.setRow], fun b hb => setRow_other w g b _ hb⟩)

theorem make_toks2 (n : Nat) (hn : n ≤ 2000) (w : World) :
    (Instr.makeSlice 74 (.int .i64 ((n : Int) + 1)) (.int .i64 ((n : Int) + 1))).run Yba.prog w = .ok (.slice (some ⟨w.heap.size, 0, none⟩) (n + 1) (n + 1)) (w.alloc (.cells (madeCells #[.int .u8 0, .string ⟨#[]⟩] ((n + 1) * 2)) 81)) := by
  obtain ⟨i, hi, hz0, hz1, hz2⟩ := info_parts info81
  have hr := run_make (P := Yba.prog) w 74 81 i (.agg #[.int .u8 0, .string ⟨#[]⟩]) Yba.underlying74 hi hz0 .i64 .i64 ((n : Int) + 1) ((n : Int) + 1) (by omega) (by omega) (by rw [hz2]; omega) (by omega)
  rw [hr, hz1]
  have e : ((n : Int) + 1).toNat = n + 1 := by omega
  rw [e]
  rfl

theorem toks_one {cs : Array Value} {n : Nat} (h : Toks cs n) (hz : cs.size = n * 2) : ∀ v ∈ cs.toList, v.oneCell' = true := by
  intro v hv
  obtain ⟨j, hj, rfl⟩ := List.getElem_of_mem hv
  have hj' : j < cs.size := by simpa using hj
  obtain ⟨a, b⟩ := h (j / 2) (by omega)
  rcases Nat.mod_two_eq_zero_or_one j with h0 | h1
  · have e : j / 2 * 2 = j := by omega
    rw [e, Array.getElem?_eq_getElem hj'] at a
    simp at a
    simp [a]
    rfl
  · have e : j / 2 * 2 + 1 = j := by omega
    rw [e, Array.getElem?_eq_getElem hj'] at b
    simp at b
    simp [b]
    rfl

theorem neq_same (K : Int) (S : ByteArray) (w : World) : (binOp .neq 81 (.agg #[.int .u8 K, .string S]) (.agg #[.int .u8 K, .string S])).run Yba.prog w = .ok (.bool false) w := by
  simp [go_sem, Yba.underlying81]

set_option maxRecDepth 8000 in
set_option maxHeartbeats 2000000 in
theorem step_any (ka ta : Option Addr) (kl kcap tl tcap : Nat) (sel : Int) (w : World) (hk : Hid (Kv w ka kl)) (ht : Hid (Sv w ta tl)) (htl : Hid (tl ≤ 9223372036854775807)) (hs0 : 0 ≤ sel) (hs1 : Hid (sel ≤ 18446744073709551615)) :
    Calls Yba.prog 5 #[.slice ka kl kcap, .slice ta tl tcap, .int .u64 sel] w fun e w' => e = .returned (.bool true) ∧ Below w.heap.size w w' := by
  obtain ⟨i81, hi81, hz0, hz1, hz2⟩ := info_parts info81
  go_enter Yba.func5, Yba.ntmps5
  by_cases hkl : 1024 < kl
  · go_wp2
    go_ret
    exact ⟨rfl, Below.refl _ _⟩
  · have hkl' : kl ≤ 1024 := by omega
    clear hkl
    have hmk := make_toks2 kl (by omega)
    go_wp2_with fail
    refine (build_any ka ta kl kcap tl tcap _ hk ht hkl' htl.out).mono ?_
    rintro e w1 ⟨rfl, hU, cs, hcs, hsz, hT, hK⟩
    have HU : Hid (Un (fun _ _ => False) w w1) := hU
    have HC : Hid (w1.heap[w.heap.size]? = some (.cells cs 81 (0, 0))) := hcs
    have HS : Hid (cs.size = (kl + 1) * 2) := hsz
    have HT : Hid (Toks cs (kl + 1)) := hT
    have hl : w.heap.size < w1.heap.size := (Array.getElem?_eq_some_iff.1 hcs).1
    clear hU hcs hsz hT hK hk ht
    go_wp2_with (refine wpList_copy_two rfl (.tmp 23) (.tmp 24) 74 rfl 81 i81 Yba.underlying74 hi81 hz1 w1.heap.size w.heap.size (kl + 1) _ _ rfl rfl _ cs 81 81 (heap_alloc_new _ _) (size_madeCells _ _) ?ca HS.out (toks_one HT.out HS.out) ?cb)
    case ca => rw [Below.heap_alloc _ _ _ hl]; exact HC.out
    intro V hV hR
    have hVs : V.heap.size = w1.heap.size + 1 := by rw [hR.size]; simp
    have hVa : V.heap[w.heap.size]? = some (.cells cs 81 (0, 0)) := by rw [hR.other _ (by omega), Below.heap_alloc _ _ _ hl]; exact HC.out
    have HVU : Hid (Un (fun _ _ => False) w V) := un_row (HU.out.alloc _) (Nat.le_of_lt hl) hR
    obtain ⟨m, hm⟩ : ∃ m : Nat, sel % ((kl : Int) + 1) = m := ⟨(sel % ((kl : Int) + 1)).toNat, by have := Int.emod_nonneg sel (show ((kl : Int) + 1) ≠ 0 by omega); omega⟩
    have hml : m < kl + 1 := by have := Int.emod_lt_of_pos sel (show (0 : Int) < (kl : Int) + 1 by omega); omega
    obtain ⟨b, hb⟩ : ∃ b, b = w1.heap.size := ⟨_, rfl⟩
    obtain ⟨g, hg⟩ : ∃ g, g = w.heap.size := ⟨_, rfl⟩
    have HT' : Hid (∀ i, i < kl + 1 → V.cell? ⟨g, i * 2, none⟩ = some (.int .u8 (kindAt cs i)) ∧ V.cell? ⟨g, i * 2 + 1, none⟩ = some (.string (textAt cs i)) ∧ V.cell? ⟨b, i * 2, none⟩ = some (.int .u8 (kindAt cs i)) ∧ V.cell? ⟨b, i * 2 + 1, none⟩ = some (.string (textAt cs i))) := fun i hi => by
      subst hb; subst hg
      rw [cell_of_row _ _ _ _ _ _ hV, cell_of_row _ _ _ _ _ _ hV, cell_of_row _ _ _ _ _ _ hVa, cell_of_row _ _ _ _ _ _ hVa]
      exact ⟨(HT.out i hi).1, (HT.out i hi).2, (HT.out i hi).1, (HT.out i hi).2⟩
    have hgV : g < V.heap.size := by omega
    have hbV : b < V.heap.size := by omega
    rw [← hg, ← hb]
    clear hV hVa hR HU HC HS HT hl hVs hb hmk hg
    obtain ⟨t0, t1, s0, s1⟩ := HT'.out m hml
    have hns := neq_same
    have hmi : (m : Int) < (kl : Int) + 1 := by omega
    go_wp2_with fail
    refine (next_any V.heap.size g (kl + 1) (kl + 1) m (kindAt cs m) (textAt cs m) _ hml (by omega) (Ty.new _ _ _) ?p0 ?p1 ?p2 ?p3).mono ?_
    case p0 => simp
    case p1 => simp
    case p2 => exact same_new _ _ _ _ t0
    case p3 => exact same_new _ _ _ _ t1
    rintro e Z ⟨rfl, hZU, hZ1⟩
    have HZ : Hid (Un (fun _ _ => False) w Z) := ⟨Nat.le_trans HVU.out.size (Nat.le_trans (by simp) hZU.size), fun b o hb _ => by
        have hv := HVU.out.size
        rw [hZU.cell b o (by simp; omega) (by omega), World.cell?_of_block (w := V) (a := ⟨b, o, none⟩) (Below.heap_alloc _ _ _ (by simp; omega))]
        exact HVU.out.cell b o hb id, fun b t h => hZU.ty b t ((HVU.out.ty b t h).alloc _), fun B hB hf => by
        have hv := HVU.out.size
        exact (HVU.out.below B hB hf).trans (((Un.refl (fun _ _ => False) V).alloc _).below B (by omega) (fun _ _ h => h.elim)) |>.trans (hZU.below B (by simp; omega) (by rintro b o ⟨rfl, rfl⟩; omega))⟩
    have HTZ : Hid (∀ i, i < kl + 1 → Z.cell? ⟨g, i * 2, none⟩ = some (.int .u8 (kindAt cs i)) ∧ Z.cell? ⟨g, i * 2 + 1, none⟩ = some (.string (textAt cs i)) ∧ Z.cell? ⟨b, i * 2, none⟩ = some (.int .u8 (kindAt cs i)) ∧ Z.cell? ⟨b, i * 2 + 1, none⟩ = some (.string (textAt cs i))) := fun i hi => by
      obtain ⟨a1, a2, a3, a4⟩ := HT'.out i hi
      refine ⟨?_, ?_, ?_, ?_⟩
      · rw [hZU.cell _ _ (by simp; omega) (by omega)]; exact same_new _ _ _ _ a1
      · rw [hZU.cell _ _ (by simp; omega) (by omega)]; exact same_new _ _ _ _ a2
      · rw [hZU.cell _ _ (by simp; omega) (by omega)]; exact same_new _ _ _ _ a3
      · rw [hZU.cell _ _ (by simp; omega) (by omega)]; exact same_new _ _ _ _ a4
    have hZ0 : Z.cell? ⟨V.heap.size, 0, none⟩ = some (.slice (some ⟨g, 0, none⟩) (kl + 1) (kl + 1)) := by
      rw [hZU.cell _ _ (by simp) (by omega)]
      exact cell_last _ _ _ _
    have hZs : V.heap.size < Z.heap.size := World.block_lt_of_cell? _ _ hZ0
    obtain ⟨p, hp⟩ : ∃ p, p = V.heap.size := ⟨_, rfl⟩
    rw [← hp] at hZ0 hZ1 ⊢
    have hpz : p < Z.heap.size := by omega
    have hgz : g < Z.heap.size := by omega
    have hbz : b < Z.heap.size := by omega
    clear hZU HT' HVU hgV hbV t0 t1 s0 s1 hp hZs
    go_upto_region 9 with fail
    refine forget_world (fun Y => Un (fun _ _ => False) w Y ∧ (∀ i, i < kl + 1 → Y.cell? ⟨g, i * 2, none⟩ = some (.int .u8 (kindAt cs i)) ∧ Y.cell? ⟨g, i * 2 + 1, none⟩ = some (.string (textAt cs i)) ∧ Y.cell? ⟨b, i * 2, none⟩ = some (.int .u8 (kindAt cs i)) ∧ Y.cell? ⟨b, i * 2 + 1, none⟩ = some (.string (textAt cs i))) ∧
      Y.cell? ⟨p, 0, none⟩ = some (.slice (some ⟨g, 0, none⟩) (kl + 1) (kl + 1)) ∧ Y.cell? ⟨p, 1, none⟩ = some (.int .i64 ((if kindAt cs m = 0 then m else m + 1 : Nat) : Int)) ∧ Y.cell? ⟨Z.heap.size, 0, none⟩ = some (.int .u8 (kindAt cs m)) ∧ Y.cell? ⟨Z.heap.size, 1, none⟩ = some (.string (textAt cs m))) ⟨HZ.out.alloc _, fun i hi => ?fa, same_new _ _ _ _ hZ0, same_new _ _ _ _ hZ1, cell_last _ _ _ _, cell_last _ _ _ _⟩ ?fb
    case fa =>
      obtain ⟨a1, a2, a3, a4⟩ := HTZ.out i hi
      exact ⟨same_new _ _ _ _ a1, same_new _ _ _ _ a2, same_new _ _ _ _ a3, same_new _ _ _ _ a4⟩
    rintro Y ⟨hYU, hYT, hY0, hY1, hYt, hYs⟩
    have HYU : Hid (Un (fun _ _ => False) w Y) := hYU
    have HYT := show Hid _ from hYT
    clear hYU hYT hZ0 hZ1 HTZ HZ hpz hgz hbz
    obtain ⟨t0, t1, s0, s1⟩ := HYT.out m hml
    go_quiet (fail)
    have hfin : ∀ (n : Nat), Below w.heap.size w (Y.drewN n) := fun n => (HYU.out.drewN n).below _ (Nat.le_refl _) (fun _ _ h => h.elim)
    have HF := show Hid _ from hfin
    clear hfin
    by_cases hK0 : kindAt cs m = 0
    · rw [hK0] at t0 s0 hYt hY1
      rw [if_pos rfl] at hY1
      go_upto_block 0 with fail
      clear t0 t1 s0 s1 hYt hYs hY1 hm
      go_wp2_with fail
      go_loopg [13] (kl + 1) (fun gk i wr => ∃ k nd, k + gk = kl + 1 ∧ i = .int .i64 ((k : Nat) : Int) ∧ wr = Y.drewN nd)
      case atStart => exact ⟨0, nq, by omega, rfl, rfl⟩
      case round =>
        obtain ⟨k, nd, hk, rfl, rfl⟩ := hrel
        by_cases hlt : k < kl + 1
        · obtain ⟨t0, t1, s0, s1⟩ := HYT.out k hlt
          have hki : (k : Int) < (kl : Int) + 1 := by omega
          go_wp2
          go_quiet (fail)
          go_wp2
          go_roundg (gk - 1)
          case measure => omega
          case rel => exact ⟨k + 1, _, by omega, by go_num, rfl⟩
        · go_wp2
          go_ret
          exact ⟨rfl, HF.out _⟩
    · rw [if_neg hK0] at hY1
      go_upto_block 0 with fail
      clear t0 t1 s0 s1 hYt hYs hY1 hm
      go_wp2_with fail
      go_loopg [13] (kl + 1) (fun gk i wr => ∃ k nd, k + gk = kl + 1 ∧ i = .int .i64 ((k : Nat) : Int) ∧ wr = Y.drewN nd)
      case atStart => exact ⟨0, nq, by omega, rfl, rfl⟩
      case round =>
        obtain ⟨k, nd, hk, rfl, rfl⟩ := hrel
        by_cases hlt : k < kl + 1
        · obtain ⟨t0, t1, s0, s1⟩ := HYT.out k hlt
          have hki : (k : Int) < (kl : Int) + 1 := by omega
          go_wp2
          go_quiet (fail)
          go_wp2
          go_roundg (gk - 1)
          case measure => omega
          case rel => exact ⟨k + 1, _, by omega, by go_num, rfl⟩
        · go_wp2
          go_ret
          exact ⟨rfl, HF.out _⟩

end Go.Proofs.Ybulkclvu.Sql
