/- The law from its beginning: the chain of items is made and linked. -/
import Derived.Test.YbulkclueFrom9
namespace Go.Proofs.Ybulkclue.Law
set_option linter.unusedVariables false
set_option linter.unusedSimpArgs false
set_option maxRecDepth 100000
open Go.RowKit Go.Proofs.Ybulkclue.Leaves Go.Proofs.Ybulkclue.Forget Go.Proofs.Ybulkclue.Mem Go.Proofs.Ybulkclue.Steps Go.Proofs.Ybulkclue.Join

theorem make_eight (w : World) :
    (Instr.makeSlice 25 (.int .i64 8) (.int .i64 8)).run Yba.prog w = .ok (.slice (some ⟨w.heap.size, 0, none⟩) 8 8) (w.alloc (.cells (madeCells #[.pointer none] 8) 33)) := by
  obtain ⟨i, hi, hz0, hz1, hz2⟩ := info_parts info33
  have hr := run_make (P := Yba.prog) w 25 33 i (.pointer none) Yba.underlying25 hi hz0 .i64 .i64 8 8 (by omega) (by omega) (by rw [hz2]; omega) (by omega)
  rw [hr, hz1]
  rfl

/-- A shard as it is made. -/
def shZero : Array Value := #[.int .i32 0, .int .u32 0, .slice none 0 0, .int .i64 0, .pointer none, .pointer none, .int .i32 0, .int .i32 0] ++ Array.replicate 64 (.int .u8 0)
theorem zero39 (w : World) : (zeroValue 39).run Yba.prog w = .ok (.agg shZero) w := by kernel_rfl
theorem shZero_size : shZero.size = 72 := by decide

theorem forget_world {P : Program} {c : Code} {Q : Exit → Act → World → Prop} {a : Act} {w : World} (R : World → Prop) (h : R w) (k : ∀ w, R w → c.wp P Q a w) : c.wp P Q a w := k w h


/-- An item as the law makes it. -/
def itemC (k : UInt8) (h : Int) (shb : Nat) (nx : Option Addr) : Array Value :=
  #[.string ⟨#[k]⟩, .int .u64 h, .pointer (some ⟨shb, 0, none⟩), .pointer nx, .pointer none, .slice none 0 0, .pointer none, .pointer none, .pointer none, .int .i64 0, .pointer none, .pointer none, .int .i64 1]

/-- The i-th item's block: N the heap's size at the law's start, p the place of the item itself. -/
def cF (N p i : Nat) : Nat := if i = p then N + 2 else if i < p then N + 4 + 2 * i else N + 4 + 2 * i - 1

/-- The state in the first loop: q items stand in the chain. -/
structure L1 (w wr : World) (no p q : Nat) (h : Int) : Prop where
  below : Below w.heap.size w wr
  size : wr.heap.size = w.heap.size + 4 + 2 * q - (if p < q then 1 else 0)
  b0 : wr.heap[w.heap.size]? = some (.cells (madeCells #[.pointer none] 8) 33 (0, 0))
  b1 : wr.heap[w.heap.size + 1]? = some (.cells (shZero.setIfInBounds 2 (.slice (some ⟨w.heap.size, 0, none⟩) 8 8)) 39 (0, 0))
  b2 : wr.heap[w.heap.size + 2]? = some (.cells (itemC 107 h (w.heap.size + 1) none) 47 (0, 0))
  b3 : ∃ cs, wr.heap[w.heap.size + 3]? = some (.cells cs 33 (0, 0)) ∧ cs.size = no + 1 ∧ ∀ i, i < q → cs[i]? = some (.pointer (some ⟨cF w.heap.size p i, 0, none⟩))
  items : ∀ i, i < q → i ≠ p → wr.heap[cF w.heap.size p i]? = some (.cells (itemC 111 h (w.heap.size + 1) none) 47 (0, 0))

theorem L1_start (w : World) (no p : Nat) (h : Int) :
    L1 w ((((w.alloc (.cells (madeCells #[.pointer none] 8) 33)).alloc (.cells (shZero.setIfInBounds 2 (.slice (some ⟨w.heap.size, 0, none⟩) 8 8)) 39)).alloc (.cells (itemC 107 h (w.heap.size + 1) none) 47)).alloc (.cells (madeCells #[.pointer none] (no + 1)) 33)) no p 0 h := by
  have s1 : (w.alloc (.cells (madeCells #[.pointer none] 8) 33)).heap.size = w.heap.size + 1 := by simp
  have s2 : ((w.alloc (.cells (madeCells #[.pointer none] 8) 33)).alloc (.cells (shZero.setIfInBounds 2 (.slice (some ⟨w.heap.size, 0, none⟩) 8 8)) 39)).heap.size = w.heap.size + 2 := by simp
  have s3 : (((w.alloc (.cells (madeCells #[.pointer none] 8) 33)).alloc (.cells (shZero.setIfInBounds 2 (.slice (some ⟨w.heap.size, 0, none⟩) 8 8)) 39)).alloc (.cells (itemC 107 h (w.heap.size + 1) none) 47)).heap.size = w.heap.size + 3 := by simp
  refine ⟨?_, by simp, ?_, ?_, ?_, ⟨madeCells #[.pointer none] (no + 1), ?_, size_madeCells _ _, fun i hi => by omega⟩, fun i hi => by omega⟩
  · exact (((Below.refl _ _).alloc (Nat.le_refl _) _ |>.alloc (by omega) _).alloc (by omega) _).alloc (by omega) _
  · rw [Below.heap_alloc _ _ _ (by omega), Below.heap_alloc _ _ _ (by omega), Below.heap_alloc _ _ _ (by omega)]
    exact heap_alloc_new _ _
  · rw [Below.heap_alloc _ _ _ (by omega), Below.heap_alloc _ _ _ (by omega), ← s1]
    exact heap_alloc_new _ _
  · rw [Below.heap_alloc _ _ _ (by omega), ← s2]
    exact heap_alloc_new _ _
  · rw [← s3]
    exact heap_alloc_new _ _

theorem cF_p (N p : Nat) : cF N p p = N + 2 := if_pos rfl
theorem cF_ge {N p i : Nat} (h : i ≠ p) : N + 4 ≤ cF N p i := by unfold cF; rw [if_neg h]; split <;> omega
theorem cF_lt {N p q i : Nat} (hi : i < q) : cF N p i < N + 4 + 2 * q - (if p < q then 1 else 0) := by unfold cF; split <;> split <;> (try split) <;> omega
theorem cF_inj {N p i j : Nat} (h : cF N p i = cF N p j) : i = j := by
  unfold cF at h
  split at h <;> split at h <;> (try split at h) <;> (try split at h) <;> omega

/-- The round that puts the item itself into the chain. -/
theorem L1_item {w wr : World} {no p q : Nat} {h : Int} (L : L1 w wr no p q h) (hq : q < no + 1) (hqp : q = p) (o : Array Value) :
    L1 w ((wr.setCell ⟨w.heap.size + 3, q, none⟩ (.pointer (some ⟨w.heap.size + 2, 0, none⟩))).alloc (.cells o 33)) no p (q + 1) h := by
  have hs := L.size
  have hs1 : (wr.setCell ⟨w.heap.size + 3, q, none⟩ (.pointer (some ⟨w.heap.size + 2, 0, none⟩))).heap.size = wr.heap.size := by simp
  rw [if_neg (by omega)] at hs
  have hold : ∀ b, b < wr.heap.size → b ≠ w.heap.size + 3 → ((wr.setCell ⟨w.heap.size + 3, q, none⟩ (.pointer (some ⟨w.heap.size + 2, 0, none⟩))).alloc (.cells o 33)).heap[b]? = wr.heap[b]? := fun b hb hn => by
    rw [Below.heap_alloc _ _ _ (by omega), Below.heap_setCell _ _ _ _ (by show b ≠ w.heap.size + 3; exact hn)]
  obtain ⟨cs, hcs, hcn, hcj⟩ := L.b3
  refine ⟨(L.below.setCell (by show w.heap.size ≤ w.heap.size + 3; omega) _).alloc (by omega) _, ?_, (hold _ (by omega) (by omega)).trans L.b0, (hold _ (by omega) (by omega)).trans L.b1, (hold _ (by omega) (by omega)).trans L.b2, ⟨cs.setIfInBounds q (.pointer (some ⟨w.heap.size + 2, 0, none⟩)), ?_, by simpa using hcn, ?_⟩, ?_⟩
  · rw [if_pos (by omega)]
    simp
    omega
  · rw [Below.heap_alloc _ _ _ (by omega)]
    exact heap_setCell_same _ _ _ _ _ _ hcs
  · intro i hi
    rw [Array.getElem?_setIfInBounds]
    by_cases e : q = i
    · subst e
      subst hqp
      rw [if_pos rfl, if_pos (by omega), cF_p]
    · rw [if_neg e]
      exact hcj i (by omega)
  · intro i hi hip
    have h1 := cF_ge (N := w.heap.size) hip
    have h2 := cF_lt (N := w.heap.size) (p := p) (show i < q by omega)
    exact (hold _ (by rw [if_neg (by omega)] at h2; omega) (by omega)).trans (L.items i (by omega) hip)

/-- The round that puts another item into the chain. -/
theorem L1_other {w wr : World} {no p q : Nat} {h : Int} (L : L1 w wr no p q h) (hq : q < no + 1) (hqp : q ≠ p) (o : Array Value) :
    L1 w (((wr.setCell ⟨w.heap.size + 3, q, none⟩ (.pointer (some ⟨wr.heap.size, 0, none⟩))).alloc (.cells (itemC 111 h (w.heap.size + 1) none) 47)).alloc (.cells o 33)) no p (q + 1) h := by
  have hs := L.size
  have hs1 : (wr.setCell ⟨w.heap.size + 3, q, none⟩ (.pointer (some ⟨wr.heap.size, 0, none⟩))).heap.size = wr.heap.size := by simp
  have hs2 : ((wr.setCell ⟨w.heap.size + 3, q, none⟩ (.pointer (some ⟨wr.heap.size, 0, none⟩))).alloc (.cells (itemC 111 h (w.heap.size + 1) none) 47)).heap.size = wr.heap.size + 1 := by simp
  have hge : w.heap.size + 4 ≤ wr.heap.size := by split at hs <;> omega
  have hcq : cF w.heap.size p q = wr.heap.size := by
    unfold cF
    rw [if_neg hqp, hs]
    split
    · rw [if_neg (by omega)]; omega
    · rw [if_pos (by omega)]
  have hold : ∀ b, b < wr.heap.size → b ≠ w.heap.size + 3 → (((wr.setCell ⟨w.heap.size + 3, q, none⟩ (.pointer (some ⟨wr.heap.size, 0, none⟩))).alloc (.cells (itemC 111 h (w.heap.size + 1) none) 47)).alloc (.cells o 33)).heap[b]? = wr.heap[b]? := fun b hb hn => by
    rw [Below.heap_alloc _ _ _ (by omega), Below.heap_alloc _ _ _ (by omega), Below.heap_setCell _ _ _ _ (by show b ≠ w.heap.size + 3; exact hn)]
  obtain ⟨cs, hcs, hcn, hcj⟩ := L.b3
  refine ⟨((L.below.setCell (by show w.heap.size ≤ w.heap.size + 3; omega) _).alloc (by omega) _).alloc (by omega) _, ?_, (hold _ (by omega) (by omega)).trans L.b0, (hold _ (by omega) (by omega)).trans L.b1, (hold _ (by omega) (by omega)).trans L.b2, ⟨cs.setIfInBounds q (.pointer (some ⟨wr.heap.size, 0, none⟩)), ?_, by simpa using hcn, ?_⟩, ?_⟩
  · simp
    rw [hs]
    split <;> split <;> omega
  · rw [Below.heap_alloc _ _ _ (by omega), Below.heap_alloc _ _ _ (by omega)]
    exact heap_setCell_same _ _ _ _ _ _ hcs
  · intro i hi
    rw [Array.getElem?_setIfInBounds]
    by_cases e : q = i
    · subst e
      rw [if_pos rfl, if_pos (by omega), hcq]
    · rw [if_neg e]
      exact hcj i (by omega)
  · intro i hi hip
    by_cases e : i = q
    · subst e
      rw [hcq, Below.heap_alloc _ _ _ (by omega)]
      have hn := heap_alloc_new (wr.setCell ⟨w.heap.size + 3, i, none⟩ (.pointer (some ⟨wr.heap.size, 0, none⟩))) (.cells (itemC 111 h (w.heap.size + 1) none) 47)
      rw [hs1] at hn
      exact hn
    · have h1 := cF_ge (N := w.heap.size) hip
      have h2 := cF_lt (N := w.heap.size) (p := p) (show i < q by omega)
      exact (hold _ (by omega) (by omega)).trans (L.items i (by omega) hip)

/-- The state in the second loop: q links are laid. -/
structure L2 (w wr : World) (no p q : Nat) (h : Int) : Prop where
  below : Below w.heap.size w wr
  size : w.heap.size ≤ wr.heap.size
  b0 : wr.heap[w.heap.size]? = some (.cells (madeCells #[.pointer none] 8) 33 (0, 0))
  b1 : wr.heap[w.heap.size + 1]? = some (.cells (shZero.setIfInBounds 2 (.slice (some ⟨w.heap.size, 0, none⟩) 8 8)) 39 (0, 0))
  b3 : ∃ cs, wr.heap[w.heap.size + 3]? = some (.cells cs 33 (0, 0)) ∧ cs.size = no + 1 ∧ ∀ i, i < no + 1 → cs[i]? = some (.pointer (some ⟨cF w.heap.size p i, 0, none⟩))
  items : ∀ i, i ≤ no → wr.heap[cF w.heap.size p i]? = some (.cells (itemC (if i = p then 107 else 111) h (w.heap.size + 1) (if i < q then some ⟨cF w.heap.size p (i + 1), 0, none⟩ else none)) 47 (0, 0))

theorem L2_start {w wr : World} {no p : Nat} {h : Int} (L : L1 w wr no p (no + 1) h) : L2 w wr no p 0 h := by
  refine ⟨L.below, L.below.size, L.b0, L.b1, L.b3, ?_⟩
  intro i hi
  rw [if_neg (show ¬ i < 0 by omega)]
  by_cases e : i = p
  · subst e
    rw [if_pos rfl, cF_p]
    exact L.b2
  · rw [if_neg e]
    exact L.items i (by omega) e

theorem L2_step {w wr : World} {no p q : Nat} {h : Int} (L : L2 w wr no p q h) (hq : q < no) :
    L2 w (wr.setCell ⟨cF w.heap.size p q, 3, none⟩ (.pointer (some ⟨cF w.heap.size p (q + 1), 0, none⟩))).drew no p (q + 1) h := by
  have hc : ∀ i, i ≠ q → cF w.heap.size p i ≠ cF w.heap.size p q := fun i hi e => hi (cF_inj e)
  have hc4 : w.heap.size + 2 ≤ cF w.heap.size p q ∧ cF w.heap.size p q ≠ w.heap.size + 3 := by
    by_cases e : q = p
    · subst e; rw [cF_p]; omega
    · have := cF_ge (N := w.heap.size) e; omega
  have hold : ∀ b, b ≠ cF w.heap.size p q → (wr.setCell ⟨cF w.heap.size p q, 3, none⟩ (.pointer (some ⟨cF w.heap.size p (q + 1), 0, none⟩))).drew.heap[b]? = wr.heap[b]? := fun b hn =>
    Below.heap_setCell _ _ _ _ (by show b ≠ cF w.heap.size p q; exact hn)
  refine ⟨(L.below.setCell (by show w.heap.size ≤ cF w.heap.size p q; omega) _).drew, ?_, (hold _ (by omega)).trans L.b0, (hold _ (by omega)).trans L.b1, ?_, ?_⟩
  · have := L.size
    show _ ≤ (wr.setCell ⟨cF w.heap.size p q, 3, none⟩ (.pointer (some ⟨cF w.heap.size p (q + 1), 0, none⟩))).heap.size
    simpa using this
  · obtain ⟨cs, hcs, r⟩ := L.b3
    exact ⟨cs, (hold _ (by omega)).trans hcs, r⟩
  · intro i hi
    by_cases e : i = q
    · subst e
      have := L.items i hi
      rw [if_neg (show ¬ i < i by omega)] at this
      rw [if_pos (show i < i + 1 by omega)]
      exact heap_setCell_same _ _ _ _ _ _ this
    · rw [hold _ (hc i e), L.items i hi]
      have e2 : (if i < q then some (⟨cF w.heap.size p (i + 1), 0, none⟩ : Addr) else none) = (if i < q + 1 then some ⟨cF w.heap.size p (i + 1), 0, none⟩ else none) := by
        by_cases e1 : i < q
        · rw [if_pos e1, if_pos (by omega)]
        · rw [if_neg e1, if_neg (by omega)]
      rw [e2]

theorem itemC_cell (k : UInt8) (h : Int) (shb : Nat) (nx : Option Addr) : (itemC k h shb nx)[0]? = some (.string ⟨#[k]⟩) ∧ (itemC k h shb nx)[1]? = some (.int .u64 h) ∧ (itemC k h shb nx)[2]? = some (.pointer (some ⟨shb, 0, none⟩)) ∧ (itemC k h shb nx)[3]? = some (.pointer nx) ∧
    (itemC k h shb nx)[4]? = some (.pointer none) ∧ (itemC k h shb nx)[5]? = some (.slice none 0 0) ∧ (itemC k h shb nx)[6]? = some (.pointer none) ∧ (itemC k h shb nx)[7]? = some (.pointer none) := ⟨rfl, rfl, rfl, rfl, rfl, rfl, rfl, rfl⟩

theorem L2_done {w wr : World} {no p : Nat} {h : Int} (L : L2 w wr no p no h) (hno : no ≤ 3) (hp : p ≤ no) (h0 : 0 ≤ h) (h1 : h ≤ 18446744073709551615) :
    Pre9 wr w.heap.size (w.heap.size + 1) (w.heap.size + 2) (w.heap.size + 3) no p (cF w.heap.size p) h ∧ Abv w.heap.size w.heap.size (w.heap.size + 1) no (cF w.heap.size p) := by
  obtain ⟨cs, hcs, hcn, hcj⟩ := L.b3
  have hI := L.items p hp
  rw [cF_p] at hI
  have hsh : ∀ o v, (shZero.setIfInBounds 2 (.slice (some ⟨w.heap.size, 0, none⟩) 8 8))[o]? = some v → wr.cell? ⟨w.heap.size + 1, o, none⟩ = some v := fun o v hv => by rw [cell_of_row wr _ o _ 39 (0, 0) L.b1]; exact hv
  have hit' : ∀ o v, (itemC (if p = p then 107 else 111) h (w.heap.size + 1) (if p < no then some ⟨cF w.heap.size p (p + 1), 0, none⟩ else none))[o]? = some v → wr.cell? ⟨w.heap.size + 2, o, none⟩ = some v := fun o v hv => by rw [cell_of_row wr _ o _ 47 (0, 0) hI]; exact hv
  have hcell := itemC_cell (if p = p then 107 else 111) h (w.heap.size + 1) (if p < no then some ⟨cF w.heap.size p (p + 1), 0, none⟩ else none)
  refine ⟨{ hno := hno, hp := hp, h0 := h0, h1 := h1, cp := cF_p _ _, cinj := fun i j _ _ e => cF_inj e, tb := ⟨_, L.b0⟩, tsh := ⟨_, L.b1⟩, tc := fun i hi => ⟨_, L.items i hi⟩, tch := ⟨_, hcs⟩, hbc := by omega,
            s2 := hsh 2 _ (by rw [Array.getElem?_setIfInBounds, if_pos rfl, if_pos (by rw [shZero_size]; decide)]), s3 := ⟨_, hsh 3 (.int .i64 0) rfl⟩, s4 := ⟨_, hsh 4 (.pointer none) rfl⟩, s5 := ⟨_, hsh 5 (.pointer none) rfl⟩, s6 := ⟨_, hsh 6 (.int .i32 0) rfl⟩, s7 := ⟨_, hsh 7 (.int .i32 0) rfl⟩,
            bucket := fun j hj => by rw [cell_of_row wr _ j _ 33 (0, 0) L.b0]; simp [madeCells, hj, Nat.mod_one], links := fun i hi => by rw [cell_of_row wr _ 3 _ 47 (0, 0) (L.items i hi)]; exact (itemC_cell _ _ _ _).2.2.2.1,
            chain := fun i hi => by rw [cell_of_row wr _ i _ 33 (0, 0) hcs]; exact hcj i (by omega), i0 := ⟨_, hit' 0 _ hcell.1⟩, i1 := hit' 1 _ hcell.2.1, i2 := hit' 2 _ hcell.2.2.1, i4 := hit' 4 _ hcell.2.2.2.2.1, i5 := hit' 5 _ hcell.2.2.2.2.2.1, i6 := hit' 6 _ hcell.2.2.2.2.2.2.1, i7 := hit' 7 _ hcell.2.2.2.2.2.2.2 },
    ⟨Nat.le_refl _, by omega, fun i hi => ?_⟩⟩
  by_cases e : i = p
  · subst e; rw [cF_p]; omega
  · have := cF_ge (N := w.heap.size) e; omega

end Go.Proofs.Ybulkclue.Law
