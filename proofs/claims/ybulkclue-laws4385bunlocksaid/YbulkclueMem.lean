/- Words on memory for this seat's walks: typed blocks, reads behind stores, an append of one element within the capacity. -/
import Derived.Test.YbulkclueLeaves
import Derived.Deep.OwnRows
import Derived.Laws.CopyOwn
namespace Go.Proofs.Ybulkclue.Mem
open Go.RowKit Go.Proofs.Ybulkclue.Leaves

/-- Block b is a row of cells of type t, none frozen. -/
def Ty (w : World) (b t : Nat) : Prop := ∃ cs, w.heap[b]? = some (.cells cs t (0, 0))

theorem Ty.lt {w : World} {b t : Nat} (h : Ty w b t) : b < w.heap.size := by
  obtain ⟨cs, h⟩ := h
  exact (Array.getElem?_eq_some_iff.1 h).1
theorem Ty.frozen {w : World} {b t : Nat} (h : Ty w b t) (o : Nat) : w.frozen? ⟨b, o, none⟩ = false := by
  obtain ⟨cs, h⟩ := h
  simp [World.frozen?, h]
theorem Ty.ne {w : World} {a b t u : Nat} (h : Ty w a t) (k : Ty w b u) (e : t ≠ u) : a ≠ b := by
  obtain ⟨cs, h⟩ := h
  obtain ⟨ds, k⟩ := k
  intro hab
  subst hab
  rw [h] at k
  simp at k
  exact e k.2
theorem Ty.setCell {w : World} {b t : Nat} (h : Ty w b t) (a : Addr) (v : Value) : Ty (w.setCell a v) b t := by
  obtain ⟨cs, h⟩ := h
  by_cases e : a.block = b
  · subst e
    refine ⟨if a.spot.isSome then cs else cs.setIfInBounds a.off v, ?_⟩
    simp [World.setCell, Array.getElem?_modify, h]
  · exact ⟨cs, by rw [Below.heap_setCell _ _ _ _ (fun k => e k.symm)]; exact h⟩
theorem Ty.alloc {w : World} {b t : Nat} (h : Ty w b t) (o : Obj) : Ty (w.alloc o) b t := by
  have hl := h.lt
  obtain ⟨cs, h⟩ := h
  exact ⟨cs, by rw [Below.heap_alloc _ _ _ hl]; exact h⟩
theorem Ty.drew {w : World} {b t : Nat} (h : Ty w b t) : Ty w.drew b t := h
theorem Ty.drewN {w : World} {b t : Nat} (h : Ty w b t) (n : Nat) : Ty (w.drewN n) b t := h
theorem Ty.new (w : World) (cs : Array Value) (t : Nat) : Ty (w.alloc (.cells cs t)) w.heap.size t := ⟨cs, heap_alloc_new w _⟩
theorem Ty.below {w w' : World} {B b t : Nat} (h : Ty w b t) (hb : Below B w w') (hl : b < B) : Ty w' b t := by
  obtain ⟨cs, h⟩ := h
  exact ⟨cs, by rw [hb.block b hl]; exact h⟩

/-- A row that is written in one place. -/
theorem setRow_is_setCell (w : World) (g k : Nat) (cur : Array Value) (e : TypeId) (v : Value) (hg : w.heap[g]? = some (.cells cur e (0, 0))) :
    w.setRow g (cur.setIfInBounds k v) = w.setCell ⟨g, k, none⟩ v := by
  unfold World.setRow World.setCell
  congr 1
  apply Array.ext_getElem?
  intro i
  rw [Array.getElem?_modify, Array.getElem?_modify]
  by_cases hi : g = i
  · subst hi
    simp [hg]
  · simp [hi]

/-- An append of one element of one cell, within the capacity: a store. -/
theorem run_append_one {P : Program} (w : World) (t ty e : TypeId) (i : TypeInfo) (ht : P.underlying t = some (.slice e)) (hi : P.info? e = some i) (hs : i.size = 1)
    (g k cap : Nat) (cur : Array Value) (hg : w.heap[g]? = some (.cells cur e (0, 0))) (hsz : cur.size = cap) (hk : k < cap)
    (a : Addr) (c : Nat) (v : Value) (hv : w.cell? a = some v) (h1 : v.oneCell' = true) :
    (Builtin.append_ #[t, t] ty #[.slice (some ⟨g, 0, none⟩) k cap, .slice (some a) 1 c]).run P w = .ok (.slice (some ⟨g, 0, none⟩) (k + 1) cap) (w.setCell ⟨g, k, none⟩ v) := by
  have hr := run_append_room (P := P) w t ty e i ht hi g k cap cur hg a 1 c [v] (by simp [hs]) (fun j u hj => by
    match j, hj with
    | 0, hj => simp at hj; subst hj; simpa [Addr.add] using hv) (fun u hu => by simp at hu; subst hu; exact h1) hk (by rw [hs]; simp; omega)
  rw [hr, ← setRow_is_setCell w g k cur e v hg]
  congr 2
  apply Array.ext'
  rw [Array.toList_setIfInBounds, hs, Nat.mul_one, List.set_eq_take_append_cons_drop, if_pos (by simp; omega)]
  simp

theorem wpList_append_one {P : Program} (w : World) {ops : Array Oper} {rest : List Oper} {o : Oper} {a : Act} {Q : Exit → Act → World → Prop}
    (hgd : o.guard = none) (s x : Operand) (t : TypeId) (ho : o.op = .call { callee := .builtin .append, args := #[s, x], argTypes := #[t, t] })
    (e : TypeId) (i : TypeInfo) (ht : P.underlying t = some (.slice e)) (hi : P.info? e = some i) (hs : i.size = 1)
    (g k cap : Nat) (cur : Array Value) (hS : a.eval s = .slice (some ⟨g, 0, none⟩) k cap) (ad : Addr) (c : Nat) (hX : a.eval x = .slice (some ad) 1 c)
    (hg : w.heap[g]? = some (.cells cur e (0, 0))) (hsz : cur.size = cap) (hk : k < cap)
    (v : Value) (hv : w.cell? ad = some v) (h1 : v.oneCell' = true)
    (h : wpList P ops Q rest (a.put o.dst (.slice (some ⟨g, 0, none⟩) (k + 1) cap)) (w.setCell ⟨g, k, none⟩ v)) : wpList P ops Q (o :: rest) a w := by
  refine wpList_plain hgd fun K hK' => ?_
  have hrun := run_append_one (P := P) w t o.type e i ht hi hs g k cap cur hg hsz hk ad c v hv h1
  unfold Oper.wp
  simp [execOp, ho, resolve, invoke, builtin, hS, hX, hrun, Result.andThen]
  exact hK' _ _ h

theorem row_stored {w : World} {g k : Nat} {cs : Array Value} {t : TypeId} {v : Value} {o : Obj} (hl : g < w.heap.size) (h : w.heap[g]? = some (.cells cs t (0, 0))) :
    ((w.setCell ⟨g, k, none⟩ v).alloc o).heap[g]? = some (.cells (cs.setIfInBounds k v) t (0, 0)) := by
  rw [Below.heap_alloc _ _ _ (by simpa using hl)]
  exact heap_setCell_same _ g k cs t v h

/-- w' is w but for the row g. -/
structure RowSet (g : Nat) (w w' : World) : Prop where
  os : w'.os = w.os
  tape : w'.tape = w.tape
  output : w'.output = w.output
  size : w'.heap.size = w.heap.size
  other : ∀ b, b ≠ g → w'.heap[b]? = w.heap[b]?

/-- 'copy' over a whole row of the call's own. -/
theorem wpList_copy_all {P : Program} {w : World} {ops : Array Oper} {rest : List Oper} {o : Oper} {a : Act} {Q : Exit → Act → World → Prop} (hgd : o.guard = none) (d s : Operand) (dT sT : TypeId)
    (ho : o.op = .call { callee := .builtin .copy, args := #[d, s], argTypes := #[dT, sT] }) (elem : TypeId) (hu : P.underlying dT = some (.slice elem)) (hsz : (P.info? elem).map (·.size) = some 1)
    (g n : Nat) (ad : Addr) (sCap : Nat) (hd : a.eval d = .slice (some ⟨g, 0, none⟩) n n) (hs : a.eval s = .slice (some ad) n sCap)
    (cur : Array Value) (t : TypeId) (hg : w.heap[g]? = some (.cells cur t (0, 0))) (hcur : cur.size = n) (cs : List Value) (hn : cs.length = n)
    (hsrc : ∀ j v, cs[j]? = some v → w.cell? (ad.add j) = some v) (h1 : ∀ v ∈ cs, v.oneCell' = true)
    (h : ∀ w', w'.heap[g]? = some (.cells cs.toArray t (0, 0)) → RowSet g w w' → wpList P ops Q rest (a.put o.dst (goInt cs.length)) w') : wpList P ops Q (o :: rest) a w := by
  refine wpList_copy_own hgd d s dT sT ho elem hu hsz g 0 n n ad n sCap hd hs cur t hg cs (by rw [hn]; exact (Nat.min_self n).symm) hsrc (by omega) h1 ?_
  refine h _ ?_ ⟨rfl, rfl, rfl, by simp [World.setRow], fun b hb => setRow_other w g b _ hb⟩
  have e : (cur.toList.take 0 ++ (cs ++ cur.toList.drop (0 + cs.length))).toArray = cs.toArray := by
    rw [List.take_zero, List.nil_append, List.drop_of_length_le (by simp; omega), List.append_nil]
  rw [e]
  exact setRow_heap w g cur cs.toArray t (0, 0) hg

end Go.Proofs.Ybulkclue.Mem
