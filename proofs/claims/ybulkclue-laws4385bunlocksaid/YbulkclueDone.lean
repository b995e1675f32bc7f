/- What the item's and the lock's keeping leave, told for the law's last checks: no walk in this text. -/
import Derived.Test.YbulkclueJoin
namespace Go.Proofs.Ybulkclue.Join
open Go.RowKit Go.Proofs.Ybulkclue.Leaves Go.Proofs.Ybulkclue.Forget Go.Proofs.Ybulkclue.Mem Go.Proofs.Ybulkclue.Steps

/-- A place for spares: its item and lock lists, and their counts, by whether the item and the lock were put in. -/
structure Sp (w : World) (b o i0 l0 ib lb : Nat) (n : Int) (it lk : Bool) : Prop where
  c0 : w.cell? ⟨b, o, none⟩ = some (.pointer (some ⟨if it then ib else i0, 0, none⟩))
  c1 : w.cell? ⟨b, o + 1, none⟩ = some (.pointer (some ⟨if lk then lb else l0, 0, none⟩))
  c2 : w.cell? ⟨b, o + 2, none⟩ = some (.int .i32 (if it then n + 1 else n))
  c3 : w.cell? ⟨b, o + 3, none⟩ = some (.int .i32 (if lk then n + 1 else n))
structure ItemIn (w : World) (ib i0 : Nat) : Prop where
  j0 : w.cell? ⟨ib, 0, none⟩ = some (.string ⟨#[]⟩)
  j3 : w.cell? ⟨ib, 3, none⟩ = some (.pointer (some ⟨i0, 0, none⟩))
structure LockIn (w : World) (lb l0 : Nat) : Prop where
  q0 : w.cell? ⟨lb, 0, none⟩ = some (.pointer none)
  q1 : w.cell? ⟨lb, 1, none⟩ = some (.pointer none)
  q2 : w.cell? ⟨lb, 2, none⟩ = some (.int .u8 0)
  q3 : w.cell? ⟨lb, 3, none⟩ = some (.int .i64 0)
  q4 : w.cell? ⟨lb, 4, none⟩ = some (.pointer (some ⟨l0, 0, none⟩))

/-- w' holds what w holds wherever w holds something. -/
def Same (w w' : World) : Prop := ∀ b o v, w.cell? ⟨b, o, none⟩ = some v → w'.cell? ⟨b, o, none⟩ = some v
theorem Same.below {w w' : World} (h : Below w.heap.size w w') : Same w w' := fun _ _ _ hv => (h.cell (World.block_lt_of_cell? _ _ hv)).trans hv
theorem Sp.same {w w' : World} {b o i0 l0 ib lb : Nat} {n : Int} {it lk : Bool} (h : Sp w b o i0 l0 ib lb n it lk) (k : Same w w') : Sp w' b o i0 l0 ib lb n it lk := ⟨k _ _ _ h.c0, k _ _ _ h.c1, k _ _ _ h.c2, k _ _ _ h.c3⟩
theorem ItemIn.same {w w' : World} {ib i0 : Nat} (h : ItemIn w ib i0) (k : Same w w') : ItemIn w' ib i0 := ⟨k _ _ _ h.j0, k _ _ _ h.j3⟩
theorem LockIn.same {w w' : World} {lb l0 : Nat} (h : LockIn w lb l0) (k : Same w w') : LockIn w' lb l0 := ⟨k _ _ _ h.q0, k _ _ _ h.q1, k _ _ _ h.q2, k _ _ _ h.q3, k _ _ _ h.q4⟩

/-- A lock in memory. -/
structure Lk (w : World) (lb : Nat) : Prop where
  ty : Ty w lb 50
  c0 : ∃ v, w.cell? ⟨lb, 0, none⟩ = some v
  c1 : ∃ v, w.cell? ⟨lb, 1, none⟩ = some v
  c2 : ∃ v, w.cell? ⟨lb, 2, none⟩ = some v
  c3 : ∃ v, w.cell? ⟨lb, 3, none⟩ = some v
  c4 : ∃ v, w.cell? ⟨lb, 4, none⟩ = some v
theorem Lk.to {w w' : World} {lb : Nat} (h : Lk w lb) (ht : Ty w' lb 50) (hc : ∀ o, w'.cell? ⟨lb, o, none⟩ = w.cell? ⟨lb, o, none⟩) : Lk w' lb :=
  ⟨ht, by rw [hc]; exact h.c0, by rw [hc]; exact h.c1, by rw [hc]; exact h.c2, by rw [hc]; exact h.c3, by rw [hc]; exact h.c4⟩

/-- The lock has been put in, the item not. -/
structure OnlyL (V W : World) (sb so ib lb i0 l0 : Nat) (n : Int) : Prop where
  sp : Sp W sb so i0 l0 ib lb n false true
  lk : LockIn W lb l0
  other : ∀ b o, b ≠ lb → b ≠ sb → W.cell? ⟨b, o, none⟩ = V.cell? ⟨b, o, none⟩
  plc : ∀ o, o < so ∨ so + 3 < o → W.cell? ⟨sb, o, none⟩ = V.cell? ⟨sb, o, none⟩

theorem onlyL {V : World} {sb so lb i0 l0 : Nat} (ib : Nat) {n : Int} (hL : Lk V lb) (hls : lb ≠ sb) (S : Sp V sb so i0 l0 0 0 n false false) :
    OnlyL V (keptLock V sb so lb (some ⟨l0, 0, none⟩) n) sb so ib lb i0 l0 n := by
  obtain ⟨v0, h0⟩ := hL.c0
  obtain ⟨v1, h1⟩ := hL.c1
  obtain ⟨v2, h2⟩ := hL.c2
  obtain ⟨v3, h3⟩ := hL.c3
  obtain ⟨v4, h4⟩ := hL.c4
  have R := readLock (x := some ⟨l0, 0, none⟩) (n := n) hls h0 h1 h2 h3 h4 S.c1 S.c3
  exact ⟨⟨R.items.trans S.c0, R.locks, R.nitems.trans S.c2, R.count⟩, ⟨R.l0, R.l1, R.l2, R.l3, R.l4⟩, R.other, fun o ho => R.place o (by omega) (by omega)⟩

/-- Both have been put in. -/
structure Both (V W : World) (sb so ib lb i0 l0 : Nat) (n : Int) : Prop where
  sp : Sp W sb so i0 l0 ib lb n true true
  it : ItemIn W ib i0
  lk : LockIn W lb l0
  other : ∀ b o, b ≠ ib → b ≠ lb → b ≠ sb → W.cell? ⟨b, o, none⟩ = V.cell? ⟨b, o, none⟩
  plc : ∀ o, o < so ∨ so + 3 < o → W.cell? ⟨sb, o, none⟩ = V.cell? ⟨sb, o, none⟩

theorem both {V : World} {sb so ib lb i0 l0 : Nat} {n : Int} (hL : Lk V lb) (hls : lb ≠ sb) (his : ib ≠ sb) (hil : ib ≠ lb) (S : Sp V sb so i0 l0 0 0 n false false)
    {k0 k3 : Value} (h0 : V.cell? ⟨ib, 0, none⟩ = some k0) (h3 : V.cell? ⟨ib, 3, none⟩ = some k3) :
    ReadItem V (keptItem V sb so ib (some ⟨i0, 0, none⟩) n) sb so ib (some ⟨i0, 0, none⟩) n ∧
    Both V (keptLock (keptItem V sb so ib (some ⟨i0, 0, none⟩) n) sb so lb (some ⟨l0, 0, none⟩) n) sb so ib lb i0 l0 n := by
  have R := readItem (x := some ⟨i0, 0, none⟩) (n := n) his h0 h3 S.c0 S.c2
  refine ⟨R, ?_⟩
  have hL' : Lk (keptItem V sb so ib (some ⟨i0, 0, none⟩) n) lb := hL.to ((((hL.ty.setCell _ _).setCell _ _).setCell _ _).setCell _ _) (fun o => R.other lb o hil.symm hls)
  obtain ⟨v0, g0⟩ := hL'.c0
  obtain ⟨v1, g1⟩ := hL'.c1
  obtain ⟨v2, g2⟩ := hL'.c2
  obtain ⟨v3, g3⟩ := hL'.c3
  obtain ⟨v4, g4⟩ := hL'.c4
  have R2 := readLock (x := some ⟨l0, 0, none⟩) (n := n) hls g0 g1 g2 g3 g4 (R.locks.trans S.c1) (R.nlocks.trans S.c3)
  exact ⟨⟨R2.items.trans R.items, R2.locks, R2.nitems.trans R.count, R2.count⟩, ⟨(R2.other _ _ hil his).trans R.key, (R2.other _ _ hil his).trans R.next⟩,
    ⟨R2.l0, R2.l1, R2.l2, R2.l3, R2.l4⟩, fun b o h1 h2 h3 => (R2.other b o h2 h3).trans (R.other b o h1 h3), fun o ho => (R2.place o (by omega) (by omega)).trans (R.place o (by omega) (by omega))⟩

/-- What leaving the bucket leaves. -/
theorem readGone {V : World} {lb lo shb : Nat} {nx : Option Addr} {N : Int} (hne : lb ≠ shb) {k0 k1 : Value} (h0 : V.cell? ⟨lb, lo, none⟩ = some k0) (h1 : V.cell? ⟨shb, 3, none⟩ = some k1) :
    (goneW V lb lo nx shb N).cell? ⟨lb, lo, none⟩ = some (.pointer nx) ∧ (goneW V lb lo nx shb N).cell? ⟨shb, 3, none⟩ = some (.int .i64 (N - 1)) ∧
    (∀ b o, b ≠ shb → (b ≠ lb ∨ o ≠ lo) → (goneW V lb lo nx shb N).cell? ⟨b, o, none⟩ = V.cell? ⟨b, o, none⟩) ∧ (∀ o, o ≠ 3 → (goneW V lb lo nx shb N).cell? ⟨shb, o, none⟩ = V.cell? ⟨shb, o, none⟩) := by
  refine ⟨?_, ?_, ?_, ?_⟩
  · unfold goneW
    rw [far _ _ hne.symm]
    exact hit _ _ h0
  · unfold goneW
    exact hit (u := k1) _ _ (by rw [far _ _ hne]; exact h1)
  · intro b o hb hn
    unfold goneW
    rw [far _ _ (Ne.symm hb), World.cell?_setCell_other _ _ _ _ (fun e => by injection e with e1 e2; rcases hn with h | h; exact h e1.symm; exact h e2.symm)]
  · intro o ho
    unfold goneW
    rw [near _ _ (Ne.symm ho), far _ _ hne]

end Go.Proofs.Ybulkclue.Join
