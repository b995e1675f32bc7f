/- What the steps of unlock do to memory, told by the cells that they touch. -/
import Derived.Test.YbulkclueMem
import Derived.Test.YbulkclueUnlock
namespace Go.Proofs.Ybulkclue.Steps
open Go.RowKit Go.Proofs.Ybulkclue.Leaves Go.Proofs.Ybulkclue.Forget Go.Proofs.Ybulkclue.Mem

/-- V is w but for the cells of which T holds, and for new blocks. -/
structure Un (T : Nat → Nat → Prop) (w V : World) : Prop where
  size : w.heap.size ≤ V.heap.size
  cell : ∀ b o, b < w.heap.size → ¬ T b o → V.cell? ⟨b, o, none⟩ = w.cell? ⟨b, o, none⟩
  ty : ∀ b t, Ty w b t → Ty V b t
  below : ∀ B, B ≤ w.heap.size → (∀ b o, T b o → B ≤ b) → Below B w V

theorem Un.refl (T : Nat → Nat → Prop) (w : World) : Un T w w := ⟨Nat.le_refl _, fun _ _ _ _ => rfl, fun _ _ h => h, fun _ _ _ => Below.refl _ _⟩

theorem Un.set {T : Nat → Nat → Prop} {w V : World} (h : Un T w V) {b o : Nat} (hT : T b o) (v : Value) : Un T w (V.setCell ⟨b, o, none⟩ v) where
  size := by simpa using h.size
  cell := fun b' o' hb hn => by
    rw [World.cell?_setCell_other _ _ _ _ (fun e => hn (by injection e with e1 e2; subst e1; subst e2; exact hT))]
    exact h.cell b' o' hb hn
  ty := fun b' t ht => (h.ty b' t ht).setCell _ _
  below := fun B hB hTB => (h.below B hB hTB).setCell (hTB b o hT) _

/-- A store into a block that is new. -/
theorem Un.setNew {T : Nat → Nat → Prop} {w V : World} (h : Un T w V) {b o : Nat} (hb : w.heap.size ≤ b) (v : Value) : Un T w (V.setCell ⟨b, o, none⟩ v) where
  size := by simpa using h.size
  cell := fun b' o' hb' hn => by
    rw [far _ _ (show b ≠ b' by omega)]
    exact h.cell b' o' hb' hn
  ty := fun b' t ht => (h.ty b' t ht).setCell _ _
  below := fun _ hB hTB => (h.below _ hB hTB).setCell (Nat.le_trans hB hb) _

theorem Un.alloc {T : Nat → Nat → Prop} {w V : World} (h : Un T w V) (ob : Obj) : Un T w (V.alloc ob) where
  size := by have := h.size; simp; omega
  cell := fun b o hb hn => by
    rw [World.cell?_of_block (w := V) (a := ⟨b, o, none⟩) (Below.heap_alloc _ _ _ (Nat.lt_of_lt_of_le hb h.size))]
    exact h.cell b o hb hn
  ty := fun b t ht => (h.ty b t ht).alloc _
  below := fun B hB hTB => (h.below B hB hTB).alloc (Nat.le_trans hB h.size) _

theorem Un.drewN {T : Nat → Nat → Prop} {w V : World} (h : Un T w V) (n : Nat) : Un T w (V.drewN n) where
  size := h.size
  cell := h.cell
  ty := h.ty
  below := fun B hB hTB => ⟨(h.below B hB hTB).os, (h.below B hB hTB).tape, (h.below B hB hTB).output, (h.below B hB hTB).size, (h.below B hB hTB).block⟩

theorem Un.drew {T : Nat → Nat → Prop} {w V : World} (h : Un T w V) : Un T w V.drew := h.drewN 1

theorem Un.dropW {T : Nat → Nat → Prop} {w V : World} (h : Un T w V) {ib rb mb m k c : Nat} (h1 : T rb k) (h2 : T mb 3) (h3 : T rb m) (h4 : T ib 5) : Un T w (dropW V ib rb mb m k c) :=
  (((h.set h1 _).set h2 _).set h3 _).set h4 _

theorem Un.goneW {T : Nat → Nat → Prop} {w V : World} (h : Un T w V) {lb lo shb : Nat} {nx : Option Addr} {N : Int} (h1 : T lb lo) (h2 : T shb 3) : Un T w (goneW V lb lo nx shb N) :=
  (h.set h1 _).set h2 _

theorem Un.keptItem {T : Nat → Nat → Prop} {w V : World} (h : Un T w V) {sb so ib : Nat} {x : Option Addr} {n : Int} (h1 : T ib 0) (h2 : T ib 3) (h3 : T sb so) (h4 : T sb (so + 2)) : Un T w (keptItem V sb so ib x n) :=
  (((h.set h1 _).set h2 _).set h3 _).set h4 _

theorem Un.keptLock {T : Nat → Nat → Prop} {w V : World} (h : Un T w V) {sb so lb : Nat} {x : Option Addr} {n : Int} (h0 : T lb 0) (h1 : T lb 1) (h2 : T lb 2) (h3 : T lb 3) (h4 : T lb 4) (h5 : T sb (so + 1)) (h6 : T sb (so + 3)) : Un T w (keptLock V sb so lb x n) :=
  ((((((h.set h0 _).set h1 _).set h2 _).set h3 _).set h4 _).set h5 _).set h6 _

/-- A store read back. -/
theorem hit (w : World) {b o : Nat} {u : Value} (v : Value) (h : w.cell? ⟨b, o, none⟩ = some u) : (w.setCell ⟨b, o, none⟩ v).cell? ⟨b, o, none⟩ = some v := World.cell?_setCell_same _ _ _ h

/-- What is read behind the keeping of an item. -/
structure ReadItem (V V' : World) (sb so ib : Nat) (x : Option Addr) (n : Int) : Prop where
  key : V'.cell? ⟨ib, 0, none⟩ = some (.string ⟨#[]⟩)
  next : V'.cell? ⟨ib, 3, none⟩ = some (.pointer x)
  items : V'.cell? ⟨sb, so, none⟩ = some (.pointer (some ⟨ib, 0, none⟩))
  count : V'.cell? ⟨sb, so + 2, none⟩ = some (.int .i32 (n + 1))
  locks : V'.cell? ⟨sb, so + 1, none⟩ = V.cell? ⟨sb, so + 1, none⟩
  nlocks : V'.cell? ⟨sb, so + 3, none⟩ = V.cell? ⟨sb, so + 3, none⟩
  other : ∀ b o, b ≠ ib → b ≠ sb → V'.cell? ⟨b, o, none⟩ = V.cell? ⟨b, o, none⟩
  item : ∀ o, o ≠ 0 → o ≠ 3 → V'.cell? ⟨ib, o, none⟩ = V.cell? ⟨ib, o, none⟩
  place : ∀ o, o ≠ so → o ≠ so + 2 → V'.cell? ⟨sb, o, none⟩ = V.cell? ⟨sb, o, none⟩

theorem readItem {V : World} {sb so ib : Nat} {x : Option Addr} {n : Int} (hne : ib ≠ sb) {k0 k3 k4 k5 : Value} (h0 : V.cell? ⟨ib, 0, none⟩ = some k0) (h3 : V.cell? ⟨ib, 3, none⟩ = some k3)
    (hi : V.cell? ⟨sb, so, none⟩ = some k4) (hn : V.cell? ⟨sb, so + 2, none⟩ = some k5) : ReadItem V (keptItem V sb so ib x n) sb so ib x n := by
  have pl : ∀ o, o ≠ so → o ≠ so + 2 → (keptItem V sb so ib x n).cell? ⟨sb, o, none⟩ = V.cell? ⟨sb, o, none⟩ := fun o h1 h2 => by
    unfold keptItem
    rw [near _ _ (Ne.symm h2), near _ _ (Ne.symm h1), far _ _ hne, far _ _ hne]
  refine ⟨?_, ?_, ?_, ?_, pl _ (by omega) (by omega), pl _ (by omega) (by omega), ?_, ?_, pl⟩
  · unfold keptItem
    rw [far _ _ hne.symm, far _ _ hne.symm, near _ _ (by decide)]
    exact hit _ _ h0
  · unfold keptItem
    rw [far _ _ hne.symm, far _ _ hne.symm]
    exact hit (u := k3) _ _ (by rw [near _ _ (by decide)]; exact h3)
  · unfold keptItem
    rw [near _ _ (by omega)]
    exact hit (u := k4) _ _ (by rw [far _ _ hne, far _ _ hne]; exact hi)
  · unfold keptItem
    exact hit (u := k5) _ _ (by rw [near _ _ (by omega), far _ _ hne, far _ _ hne]; exact hn)
  · intro b o h1 h2
    unfold keptItem
    rw [far _ _ (Ne.symm h2), far _ _ (Ne.symm h2), far _ _ (Ne.symm h1), far _ _ (Ne.symm h1)]
  · intro o h1 h2
    unfold keptItem
    rw [far _ _ hne.symm, far _ _ hne.symm, near _ _ (Ne.symm h2), near _ _ (Ne.symm h1)]

/-- What is read behind the keeping of a lock. -/
structure ReadLock (V V' : World) (sb so lb : Nat) (x : Option Addr) (n : Int) : Prop where
  l0 : V'.cell? ⟨lb, 0, none⟩ = some (.pointer none)
  l1 : V'.cell? ⟨lb, 1, none⟩ = some (.pointer none)
  l2 : V'.cell? ⟨lb, 2, none⟩ = some (.int .u8 0)
  l3 : V'.cell? ⟨lb, 3, none⟩ = some (.int .i64 0)
  l4 : V'.cell? ⟨lb, 4, none⟩ = some (.pointer x)
  locks : V'.cell? ⟨sb, so + 1, none⟩ = some (.pointer (some ⟨lb, 0, none⟩))
  count : V'.cell? ⟨sb, so + 3, none⟩ = some (.int .i32 (n + 1))
  items : V'.cell? ⟨sb, so, none⟩ = V.cell? ⟨sb, so, none⟩
  nitems : V'.cell? ⟨sb, so + 2, none⟩ = V.cell? ⟨sb, so + 2, none⟩
  other : ∀ b o, b ≠ lb → b ≠ sb → V'.cell? ⟨b, o, none⟩ = V.cell? ⟨b, o, none⟩
  place : ∀ o, o ≠ so + 1 → o ≠ so + 3 → V'.cell? ⟨sb, o, none⟩ = V.cell? ⟨sb, o, none⟩

theorem readLock {V : World} {sb so lb : Nat} {x : Option Addr} {n : Int} (hne : lb ≠ sb) {v0 v1 v2 v3 v4 k1 k3 : Value} (h0 : V.cell? ⟨lb, 0, none⟩ = some v0) (h1 : V.cell? ⟨lb, 1, none⟩ = some v1)
    (h2 : V.cell? ⟨lb, 2, none⟩ = some v2) (h3 : V.cell? ⟨lb, 3, none⟩ = some v3) (h4 : V.cell? ⟨lb, 4, none⟩ = some v4)
    (hi : V.cell? ⟨sb, so + 1, none⟩ = some k1) (hn : V.cell? ⟨sb, so + 3, none⟩ = some k3) : ReadLock V (keptLock V sb so lb x n) sb so lb x n := by
  have pl : ∀ o, o ≠ so + 1 → o ≠ so + 3 → (keptLock V sb so lb x n).cell? ⟨sb, o, none⟩ = V.cell? ⟨sb, o, none⟩ := fun o h1 h2 => by
    unfold keptLock
    rw [near _ _ (Ne.symm h2), near _ _ (Ne.symm h1), far _ _ hne, far _ _ hne, far _ _ hne, far _ _ hne, far _ _ hne]
  refine ⟨?_, ?_, ?_, ?_, ?_, ?_, ?_, pl _ (by omega) (by omega), pl _ (by omega) (by omega), ?_, pl⟩
  · unfold keptLock
    rw [far _ _ hne.symm, far _ _ hne.symm, near _ _ (by decide), near _ _ (by decide), near _ _ (by decide), near _ _ (by decide)]
    exact hit _ _ h0
  · unfold keptLock
    rw [far _ _ hne.symm, far _ _ hne.symm, near _ _ (by decide), near _ _ (by decide), near _ _ (by decide)]
    exact hit (u := v1) _ _ (by rw [near _ _ (by decide)]; exact h1)
  · unfold keptLock
    rw [far _ _ hne.symm, far _ _ hne.symm, near _ _ (by decide), near _ _ (by decide)]
    exact hit (u := v2) _ _ (by rw [near _ _ (by decide), near _ _ (by decide)]; exact h2)
  · unfold keptLock
    rw [far _ _ hne.symm, far _ _ hne.symm, near _ _ (by decide)]
    exact hit (u := v3) _ _ (by rw [near _ _ (by decide), near _ _ (by decide), near _ _ (by decide)]; exact h3)
  · unfold keptLock
    rw [far _ _ hne.symm, far _ _ hne.symm]
    exact hit (u := v4) _ _ (by rw [near _ _ (by decide), near _ _ (by decide), near _ _ (by decide), near _ _ (by decide)]; exact h4)
  · unfold keptLock
    rw [near _ _ (by omega)]
    exact hit (u := k1) _ _ (by rw [far _ _ hne, far _ _ hne, far _ _ hne, far _ _ hne, far _ _ hne]; exact hi)
  · unfold keptLock
    exact hit (u := k3) _ _ (by rw [near _ _ (by omega), far _ _ hne, far _ _ hne, far _ _ hne, far _ _ hne, far _ _ hne]; exact hn)
  · intro b o h1 h2
    unfold keptLock
    rw [far _ _ (Ne.symm h2), far _ _ (Ne.symm h2), far _ _ (Ne.symm h1), far _ _ (Ne.symm h1), far _ _ (Ne.symm h1), far _ _ (Ne.symm h1), far _ _ (Ne.symm h1)]

end Go.Proofs.Ybulkclue.Steps
