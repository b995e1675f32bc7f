/- Words on memory for this seat's walks: typed blocks, reads behind stores, worlds that part in few cells. -/
import Derived.Test.YbulkclvuRows
import Derived.WalkKit
import Derived.LaidEqlPtr
import Derived.Deep.OwnRows
import Derived.Deep.Draws
namespace Go.Proofs.Ybulkclvu.Mem
open Go.RowKit

theorem far (w : World) {b b' o o' : Nat} (v : Value) (h : b' ≠ b) : (w.setCell ⟨b', o', none⟩ v).cell? ⟨b, o, none⟩ = w.cell? ⟨b, o, none⟩ :=
  World.cell?_setCell_other w _ _ v (fun e => h (congrArg Addr.block e))
theorem near (w : World) {b o o' : Nat} (v : Value) (h : o' ≠ o) : (w.setCell ⟨b, o', none⟩ v).cell? ⟨b, o, none⟩ = w.cell? ⟨b, o, none⟩ :=
  World.cell?_setCell_other w _ _ v (fun e => h (congrArg Addr.off e))
/-- A store read back. -/
theorem hit (w : World) {b o : Nat} {u : Value} (v : Value) (h : w.cell? ⟨b, o, none⟩ = some u) : (w.setCell ⟨b, o, none⟩ v).cell? ⟨b, o, none⟩ = some v := World.cell?_setCell_same _ _ _ h

/-- Block b is a row of cells of type t, none frozen. -/
def Ty (w : World) (b t : Nat) : Prop := ∃ cs, w.heap[b]? = some (.cells cs t (0, 0))

theorem Ty.lt {w : World} {b t : Nat} (h : Ty w b t) : b < w.heap.size := by
  obtain ⟨cs, h⟩ := h
  exact (Array.getElem?_eq_some_iff.1 h).1
theorem Ty.frozen {w : World} {b t : Nat} (h : Ty w b t) (o : Nat) : w.frozen? ⟨b, o, none⟩ = false := by
  obtain ⟨cs, h⟩ := h
  simp [World.frozen?, h]
theorem Ty.ne {w : World} {a b t u : Nat} (h : Ty w a t) (k : Ty w b u) (e : t ≠ u) : a ≠ b := by
  obtain ⟨cs, h⟩ := h
  obtain ⟨ds, k⟩ := k
  intro hab
  subst hab
  rw [h] at k
  simp at k
  exact e k.2
theorem Ty.setCell {w : World} {b t : Nat} (h : Ty w b t) (a : Addr) (v : Value) : Ty (w.setCell a v) b t := by
  obtain ⟨cs, h⟩ := h
  by_cases e : a.block = b
  · subst e
    refine ⟨if a.spot.isSome then cs else cs.setIfInBounds a.off v, ?_⟩
    simp [World.setCell, Array.getElem?_modify, h]
  · exact ⟨cs, by rw [Below.heap_setCell _ _ _ _ (fun k => e k.symm)]; exact h⟩
theorem Ty.alloc {w : World} {b t : Nat} (h : Ty w b t) (o : Obj) : Ty (w.alloc o) b t := by
  have hl := h.lt
  obtain ⟨cs, h⟩ := h
  exact ⟨cs, by rw [Below.heap_alloc _ _ _ hl]; exact h⟩
theorem Ty.drew {w : World} {b t : Nat} (h : Ty w b t) : Ty w.drew b t := h
theorem Ty.drewN {w : World} {b t : Nat} (h : Ty w b t) (n : Nat) : Ty (w.drewN n) b t := h
theorem Ty.new (w : World) (cs : Array Value) (t : Nat) : Ty (w.alloc (.cells cs t)) w.heap.size t := ⟨cs, heap_alloc_new w _⟩
theorem Ty.below {w w' : World} {B b t : Nat} (h : Ty w b t) (hb : Below B w w') (hl : b < B) : Ty w' b t := by
  obtain ⟨cs, h⟩ := h
  exact ⟨cs, by rw [hb.block b hl]; exact h⟩

/-- A row that is written in one place. -/
theorem setRow_is_setCell (w : World) (g k : Nat) (cur : Array Value) (e : TypeId) (v : Value) (hg : w.heap[g]? = some (.cells cur e (0, 0))) :
    w.setRow g (cur.setIfInBounds k v) = w.setCell ⟨g, k, none⟩ v := by
  unfold World.setRow World.setCell
  congr 1
  apply Array.ext_getElem?
  intro i
  rw [Array.getElem?_modify, Array.getElem?_modify]
  by_cases hi : g = i
  · subst hi
    simp [hg]
  · simp [hi]

/-- An append of one element of one cell, within the capacity: a store. -/
theorem run_append_one {P : Program} (w : World) (t ty e : TypeId) (i : TypeInfo) (ht : P.underlying t = some (.slice e)) (hi : P.info? e = some i) (hs : i.size = 1)
    (g k cap : Nat) (cur : Array Value) (hg : w.heap[g]? = some (.cells cur e (0, 0))) (hsz : cur.size = cap) (hk : k < cap)
    (a : Addr) (c : Nat) (v : Value) (hv : w.cell? a = some v) (h1 : v.oneCell' = true) :
    (Builtin.append_ #[t, t] ty #[.slice (some ⟨g, 0, none⟩) k cap, .slice (some a) 1 c]).run P w = .ok (.slice (some ⟨g, 0, none⟩) (k + 1) cap) (w.setCell ⟨g, k, none⟩ v) := by
  have hr := run_append_room (P := P) w t ty e i ht hi g k cap cur hg a 1 c [v] (by simp [hs]) (fun j u hj => by
    match j, hj with
    | 0, hj => simp at hj; subst hj; simpa [Addr.add] using hv) (fun u hu => by simp at hu; subst hu; exact h1) hk (by rw [hs]; simp; omega)
  rw [hr, ← setRow_is_setCell w g k cur e v hg]
  congr 2
  apply Array.ext'
  rw [Array.toList_setIfInBounds, hs, Nat.mul_one, List.set_eq_take_append_cons_drop, if_pos (by simp; omega)]
  simp

theorem wpList_append_one {P : Program} (w : World) {ops : Array Oper} {rest : List Oper} {o : Oper} {a : Act} {Q : Exit → Act → World → Prop}
    (hgd : o.guard = none) (s x : Operand) (t : TypeId) (ho : o.op = .call { callee := .builtin .append, args := #[s, x], argTypes := #[t, t] })
    (e : TypeId) (i : TypeInfo) (ht : P.underlying t = some (.slice e)) (hi : P.info? e = some i) (hs : i.size = 1)
    (g k cap : Nat) (cur : Array Value) (hS : a.eval s = .slice (some ⟨g, 0, none⟩) k cap) (ad : Addr) (c : Nat) (hX : a.eval x = .slice (some ad) 1 c)
    (hg : w.heap[g]? = some (.cells cur e (0, 0))) (hsz : cur.size = cap) (hk : k < cap)
    (v : Value) (hv : w.cell? ad = some v) (h1 : v.oneCell' = true)
    (h : wpList P ops Q rest (a.put o.dst (.slice (some ⟨g, 0, none⟩) (k + 1) cap)) (w.setCell ⟨g, k, none⟩ v)) : wpList P ops Q (o :: rest) a w := by
  refine wpList_plain hgd fun K hK' => ?_
  have hrun := run_append_one (P := P) w t o.type e i ht hi hs g k cap cur hg hsz hk ad c v hv h1
  unfold Oper.wp
  simp [execOp, ho, resolve, invoke, builtin, hS, hX, hrun, Result.andThen]
  exact hK' _ _ h

theorem row_stored {w : World} {g k : Nat} {cs : Array Value} {t : TypeId} {v : Value} {o : Obj} (hl : g < w.heap.size) (h : w.heap[g]? = some (.cells cs t (0, 0))) :
    ((w.setCell ⟨g, k, none⟩ v).alloc o).heap[g]? = some (.cells (cs.setIfInBounds k v) t (0, 0)) := by
  rw [Below.heap_alloc _ _ _ (by simpa using hl)]
  exact heap_setCell_same _ g k cs t v h

/-- V is w but for the cells of which T holds, and for new blocks. -/
structure Un (T : Nat → Nat → Prop) (w V : World) : Prop where
  size : w.heap.size ≤ V.heap.size
  cell : ∀ b o, b < w.heap.size → ¬ T b o → V.cell? ⟨b, o, none⟩ = w.cell? ⟨b, o, none⟩
  ty : ∀ b t, Ty w b t → Ty V b t
  below : ∀ B, B ≤ w.heap.size → (∀ b o, T b o → B ≤ b) → Below B w V

theorem Un.refl (T : Nat → Nat → Prop) (w : World) : Un T w w := ⟨Nat.le_refl _, fun _ _ _ _ => rfl, fun _ _ h => h, fun _ _ _ => Below.refl _ _⟩

theorem Un.set {T : Nat → Nat → Prop} {w V : World} (h : Un T w V) {b o : Nat} (hT : T b o) (v : Value) : Un T w (V.setCell ⟨b, o, none⟩ v) where
  size := by simpa using h.size
  cell := fun b' o' hb hn => by
    rw [World.cell?_setCell_other _ _ _ _ (fun e => hn (by injection e with e1 e2; subst e1; subst e2; exact hT))]
    exact h.cell b' o' hb hn
  ty := fun b' t ht => (h.ty b' t ht).setCell _ _
  below := fun B hB hTB => (h.below B hB hTB).setCell (hTB b o hT) _

/-- A store into a block that is new. -/
theorem Un.setNew {T : Nat → Nat → Prop} {w V : World} (h : Un T w V) {b o : Nat} (hb : w.heap.size ≤ b) (v : Value) : Un T w (V.setCell ⟨b, o, none⟩ v) where
  size := by simpa using h.size
  cell := fun b' o' hb' hn => by
    rw [far _ _ (show b ≠ b' by omega)]
    exact h.cell b' o' hb' hn
  ty := fun b' t ht => (h.ty b' t ht).setCell _ _
  below := fun _ hB hTB => (h.below _ hB hTB).setCell (Nat.le_trans hB hb) _

theorem Un.alloc {T : Nat → Nat → Prop} {w V : World} (h : Un T w V) (ob : Obj) : Un T w (V.alloc ob) where
  size := by have := h.size; simp; omega
  cell := fun b o hb hn => by
    rw [World.cell?_of_block (w := V) (a := ⟨b, o, none⟩) (Below.heap_alloc _ _ _ (Nat.lt_of_lt_of_le hb h.size))]
    exact h.cell b o hb hn
  ty := fun b t ht => (h.ty b t ht).alloc _
  below := fun B hB hTB => (h.below B hB hTB).alloc (Nat.le_trans hB h.size) _

theorem Un.drewN {T : Nat → Nat → Prop} {w V : World} (h : Un T w V) (n : Nat) : Un T w (V.drewN n) where
  size := h.size
  cell := h.cell
  ty := h.ty
  below := fun B hB hTB => ⟨(h.below B hB hTB).os, (h.below B hB hTB).tape, (h.below B hB hTB).output, (h.below B hB hTB).size, (h.below B hB hTB).block⟩

theorem Un.drew {T : Nat → Nat → Prop} {w V : World} (h : Un T w V) : Un T w V.drew := h.drewN 1

/-- An append of one element of two cells, within the capacity: two stores. -/
theorem run_append_two {P : Program} (w : World) (t ty e : TypeId) (i : TypeInfo) (ht : P.underlying t = some (.slice e)) (hi : P.info? e = some i) (hs : i.size = 2)
    (g k cap : Nat) (cur : Array Value) (hg : w.heap[g]? = some (.cells cur e (0, 0))) (hsz : cur.size = cap * 2) (hk : k < cap)
    (a : Addr) (c : Nat) (u v : Value) (hu : w.cell? (a.add 0) = some u) (hv : w.cell? (a.add 1) = some v) (h1 : u.oneCell' = true) (h2 : v.oneCell' = true) :
    (Builtin.append_ #[t, t] ty #[.slice (some ⟨g, 0, none⟩) k cap, .slice (some a) 1 c]).run P w = .ok (.slice (some ⟨g, 0, none⟩) (k + 1) cap) ((w.setCell ⟨g, k * 2, none⟩ u).setCell ⟨g, k * 2 + 1, none⟩ v) := by
  have hr := run_append_room (P := P) w t ty e i ht hi g k cap cur hg a 1 c [u, v] (by simp [hs]) (fun j x hj => by
    match j, hj with
    | 0, hj => simp at hj; subst hj; exact hu
    | 1, hj => simp at hj; subst hj; exact hv) (fun x hx => by simp at hx; rcases hx with rfl | rfl; exact h1; exact h2) hk (by rw [hs]; simp; omega)
  rw [hr]
  rw [← setRow_is_setCell (w.setCell ⟨g, k * 2, none⟩ u) g (k * 2 + 1) (cur.setIfInBounds (k * 2) u) e v (heap_setCell_same _ _ _ _ _ _ hg), ← setRow_is_setCell w g (k * 2) cur e u hg, setRow_setRow]
  congr 2
  apply Array.ext'
  rw [Array.toList_setIfInBounds, Array.toList_setIfInBounds, hs]
  apply List.ext_getElem?
  intro j
  have hl : cur.toList.length = cap * 2 := by simpa using hsz
  simp only [List.getElem?_set, List.length_set, List.getElem?_append, List.length_append, List.length_take, List.length_cons, List.length_nil, List.getElem?_take, List.getElem?_drop]
  have hm : min (k * 2) cur.toList.length = k * 2 := by omega
  rw [hm]
  by_cases h1 : j < k * 2
  · rw [if_pos (by omega), if_pos h1, if_pos h1, if_neg (by omega), if_neg (by omega)]
  · by_cases h2 : j = k * 2
    · subst h2
      rw [if_pos (by omega), if_neg (by omega), if_neg (by omega), if_pos rfl, if_pos (by omega)]
      simp
    · by_cases h3 : j = k * 2 + 1
      · subst h3
        rw [if_pos (by omega), if_neg (by omega), if_pos rfl, if_pos (by omega)]
        simp
      · rw [if_neg (by omega), if_neg (by omega), if_neg (by omega)]
        congr 1
        omega

theorem wpList_append_two {P : Program} (w : World) {ops : Array Oper} {rest : List Oper} {o : Oper} {a : Act} {Q : Exit → Act → World → Prop}
    (hgd : o.guard = none) (s x : Operand) (t : TypeId) (ho : o.op = .call { callee := .builtin .append, args := #[s, x], argTypes := #[t, t] })
    (e : TypeId) (i : TypeInfo) (ht : P.underlying t = some (.slice e)) (hi : P.info? e = some i) (hs : i.size = 2)
    (g k cap : Nat) (cur : Array Value) (hS : a.eval s = .slice (some ⟨g, 0, none⟩) k cap) (ad : Nat) (c : Nat) (hX : a.eval x = .slice (some ⟨ad, 0, none⟩) 1 c)
    (hg : w.heap[g]? = some (.cells cur e (0, 0))) (hsz : cur.size = cap * 2) (hk : k < cap)
    (u v : Value) (hu : w.cell? ⟨ad, 0, none⟩ = some u) (hv : w.cell? ⟨ad, 1, none⟩ = some v) (h1 : u.oneCell' = true) (h2 : v.oneCell' = true)
    (h : wpList P ops Q rest (a.put o.dst (.slice (some ⟨g, 0, none⟩) (k + 1) cap)) ((w.setCell ⟨g, k * 2, none⟩ u).setCell ⟨g, k * 2 + 1, none⟩ v)) : wpList P ops Q (o :: rest) a w := by
  refine wpList_plain hgd fun K hK' => ?_
  have hrun := run_append_two (P := P) w t o.type e i ht hi hs g k cap cur hg hsz hk ⟨ad, 0, none⟩ c u v (by simpa [Addr.add] using hu) (by simpa [Addr.add] using hv) h1 h2
  unfold Oper.wp
  simp [execOp, ho, resolve, invoke, builtin, hS, hX, hrun, Result.andThen]
  exact hK' _ _ h

theorem cell_last (w : World) (cs : Array Value) (t o : Nat) : (w.alloc (.cells cs t)).cell? ⟨w.heap.size, o, none⟩ = cs[o]? :=
  cell_of_row _ w.heap.size o cs t (0, 0) (heap_alloc_new w _)
theorem addr_add0 (b j : Nat) : (⟨b, 0, none⟩ : Addr).add j = ⟨b, j, none⟩ := by unfold Addr.add; split <;> simp_all
theorem same_new (w : World) (o : Obj) (a : Addr) (v : Value) (h : w.cell? a = some v) : (w.alloc o).cell? a = some v := by
  rw [World.cell?_of_block (Below.heap_alloc _ _ _ (World.block_lt_of_cell? _ _ h))]; exact h

end Go.Proofs.Ybulkclvu.Mem
