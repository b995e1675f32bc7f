/- A map whose keys are pointers to blocks of one type: looking up, storing, counting. -/
import Derived.Test.YbulkclvuMem
namespace Go.Proofs.Ybulkclvu.Own
set_option linter.unusedVariables false
open Go.RowKit Go.Proofs.Ybulkclvu.Mem

def ptr (b : Nat) : Value := .pointer (some ⟨b, 0, none⟩)

theorem size49 : (Yba.prog.info? 49).map (fun i => decide (i.size ≠ 0)) = some true := by kernel_rfl

theorem equal_same (b : Nat) (W : World) : (Op.equal 23 (ptr b) (ptr b)).run Yba.prog W = .ok true W := by
  obtain ⟨j, hj⟩ := Option.isSome_iff_exists.1 (show (Yba.prog.info? 49).isSome = true by kernel_rfl)
  have h : ∀ d : Nat, (Op.equalIn (d + 1) 23 (ptr b) (ptr b)).run Yba.prog W = .ok true W := fun d => by
    simp [Op.equalIn, ptr, run_underlying Yba.underlying23, sizeOf, typeInfo, hj, run_sameAddr_same]
  exact h 9999

theorem equal_other {a b : Nat} {W : World} (h : a ≠ b) (ha : Ty W a 49) (hb : Ty W b 49) : (Op.equal 23 (ptr a) (ptr b)).run Yba.prog W = .ok false W := by
  obtain ⟨j, hj, hs⟩ := Option.map_eq_some_iff.1 size49
  have hs : j.size ≠ 0 := by simpa using hs
  obtain ⟨ca, ha⟩ := ha
  obtain ⟨cb, hb⟩ := hb
  have hne : (⟨a, 0, none⟩ : Addr) ≠ ⟨b, 0, none⟩ := fun e => h (congrArg Addr.block e)
  have h : ∀ d : Nat, (Op.equalIn (d + 1) 23 (ptr a) (ptr b)).run Yba.prog W = .ok false W := fun d => by
    simp [Op.equalIn, ptr, run_underlying Yba.underlying23, sizeOf, typeInfo, hj, hs, run_sameAddr_other W hne ha hb]
  exact h 9999

/-- The keys are the pointers to the blocks T k, k out of a list; the block sought is T b. -/
theorem run_find {W : World} {T : Nat → Nat} {b : Nat} (hb : Ty W (T b) 49) (V : Nat → Value) : ∀ (ks : List Nat) (es : List MapEntry) (i : Nat), es.map (·.key) = ks.map (fun k => ptr (T k)) → es.map (·.val) = ks.map V → (∀ k ∈ ks, Ty W (T k) 49) → (∀ k ∈ ks, T b = T k → b = k) →
    (Instr.findAsking 23 (ptr (T b)) es i).run Yba.prog W = .ok (if b ∈ ks then some (i + ks.idxOf b, V b) else none) W
  | [], es, i, hk, _, _, _ => by
    obtain rfl : es = [] := by simpa using hk
    simp [Instr.findAsking]
  | k :: ks, es, i, hk, hv, hT, hi => by
    match es, hk, hv with
    | e :: es, hk, hv =>
      simp only [List.map_cons, List.cons.injEq] at hk hv
      simp only [Instr.findAsking, Sem.run_bind, hk.1]
      by_cases h : b = k
      · subst h
        simp [equal_same, hv.1]
      · have ih := run_find hb V ks es (i + 1) hk.2 hv.2 (fun x hx => hT x (by simp [hx])) (fun x hx => hi x (by simp [hx]))
        rw [equal_other (fun e => h (hi k (by simp) e)) hb (hT k (by simp))]
        have h' : (k == b) = false := by simpa using fun e => h e.symm
        simp [ih, h, h', List.idxOf_cons, Nat.add_assoc, Nat.add_comm 1]

theorem run_findKey {W : World} {T : Nat → Nat} {b : Nat} (hb : Ty W (T b) 49) (V : Nat → Value) (ks : List Nat) (es : List MapEntry) (hk : es.map (·.key) = ks.map (fun k => ptr (T k))) (hv : es.map (·.val) = ks.map V) (hT : ∀ k ∈ ks, Ty W (T k) 49) (hi : ∀ k ∈ ks, T b = T k → b = k) :
    (Instr.findKey 23 (ptr (T b)) es).run Yba.prog W = .ok (if b ∈ ks then some (ks.idxOf b, V b) else none) W := by
  have hf := run_find hb V ks es 0 hk hv hT hi
  rw [Nat.zero_add] at hf
  cases es with
  | nil =>
    obtain rfl : ks = [] := by simpa using hk.symm
    simp [Instr.findKey, run_underlying Yba.underlying23, Instr.findNow]
  | cons e es =>
    have hn : Instr.findNow (.pointer 49) (ptr (T b)) (e :: es) 0 = none := by
      simp [Instr.findNow, Instr.sameNow]
    simp only [Instr.findKey, Sem.run_bind, run_underlying Yba.underlying23, Result.andThen_ok, hn]
    exact hf

theorem run_checkKey (W : World) (b : Nat) (em : Bool) : ∀ d : Nat, (Instr.checkKey em (d + 1) 23 (ptr b)).run Yba.prog W = .ok () W := fun d => by
  simp [Instr.checkKey, run_underlying Yba.underlying23, ptr]

theorem zero26 : (Yba.prog.info? 26).map (fun i => i.zero) = some (some (.slice none 0 0)) := by kernel_rfl

theorem run_zero26 (W : World) : (zeroValue 26).run Yba.prog W = .ok (.slice none 0 0) W := by
  obtain ⟨j, hj, hs⟩ := Option.map_eq_some_iff.1 zero26
  simp [zeroValue, typeInfo, hj, hs]

theorem run_look {W : World} {T : Nat → Nat} {r b : Nat} {es : Array MapEntry} {clk : Nat} {ks : List Nat} {V : Nat → Value} (hm : W.heap[r]? = some (.map es clk)) (hk : es.toList.map (·.key) = ks.map (fun k => ptr (T k))) (hv : es.toList.map (·.val) = ks.map V)
    (hT : ∀ k ∈ ks, Ty W (T k) 49) (hb : Ty W (T b) 49) (hi : ∀ k ∈ ks, T b = T k → b = k) :
    (Instr.lookup 53 (.map (some r)) (ptr (T b)) false).run Yba.prog W = .ok (if b ∈ ks then V b else .slice none 0 0) W := by
  have hf := run_findKey hb V ks es.toList hk hv hT hi
  have hc := run_checkKey W (T b) es.isEmpty 9999
  have hg : (getObj r).run Yba.prog W = .ok (.map es clk) W := by simp [getObj, Sem.run, hm]
  by_cases h : b ∈ ks
  · rw [if_pos h] at hf ⊢
    simp only [Instr.lookup, Sem.run_bind, run_underlying Yba.underlying53, Result.andThen_ok, hg, hc, hf, Sem.run_pure]
    rfl
  · rw [if_neg h] at hf ⊢
    simp only [Instr.lookup, Sem.run_bind, run_underlying Yba.underlying53, Result.andThen_ok, hg, hc, hf, Sem.run_pure, run_zero26]
    rfl

theorem idx_set {ks : List Nat} {b : Nat} (hnd : ks.Nodup) (h : b ∈ ks) (V : Nat → Value) (v : Value) : (ks.map V).set (ks.idxOf b) v = ks.map (fun x => if x = b then v else V x) := by
  apply List.ext_getElem?
  intro j
  rw [List.getElem?_set]
  by_cases hj : ks.idxOf b = j
  · have hl := List.idxOf_lt_length_of_mem h
    subst hj
    rw [if_pos rfl, if_pos (by simpa using hl), List.getElem?_map, List.getElem?_eq_getElem hl, List.getElem_idxOf hl]
    simp
  · rw [if_neg hj, List.getElem?_map, List.getElem?_map]
    by_cases hl : j < ks.length
    · rw [List.getElem?_eq_getElem hl]
      have : ks[j] ≠ b := fun e => hj (by rw [← e]; exact hnd.idxOf_getElem j hl)
      simp [this]
    · rw [List.getElem?_eq_none (by omega)]
      rfl

theorem run_update {W : World} {T : Nat → Nat} {r b : Nat} {es : Array MapEntry} {clk : Nat} {ks : List Nat} {V : Nat → Value} (hm : W.heap[r]? = some (.map es clk)) (hk : es.toList.map (·.key) = ks.map (fun k => ptr (T k))) (hv : es.toList.map (·.val) = ks.map V)
    (hT : ∀ k ∈ ks, Ty W (T k) 49) (hb : Ty W (T b) 49) (hi : ∀ k ∈ ks, T b = T k → b = k) (hnd : ks.Nodup) (v : Value) :
    ∃ es' clk', (Instr.mapUpdate 53 (.map (some r)) (ptr (T b)) v).run Yba.prog W = .ok () { W with heap := W.heap.setIfInBounds r (.map es' clk') } ∧
      es'.toList.map (·.key) = (if b ∈ ks then ks else ks ++ [b]).map (fun k => ptr (T k)) ∧ es'.toList.map (·.val) = (if b ∈ ks then ks else ks ++ [b]).map (fun x => if x = b then v else V x) := by
  have hf := run_findKey hb V ks es.toList hk hv hT hi
  have hc := run_checkKey W (T b) false 9999
  have hg : (getObj r).run Yba.prog W = .ok (.map es clk) W := by simp [getObj, Sem.run, hm]
  have hs : ∀ o, (setObj r o).run Yba.prog W = .ok () { W with heap := W.heap.setIfInBounds r o } := fun o => by simp [setObj, Sem.run, hm]
  by_cases h : b ∈ ks
  · rw [if_pos h] at hf ⊢
    have hl : ks.idxOf b < es.toList.length := by
      have e := congrArg List.length hk
      simp at e
      have := List.idxOf_lt_length_of_mem h
      simp
      omega
    have hl' : ks.idxOf b < es.size := by simpa using hl
    have hold : ((es[ks.idxOf b]?).map (·.key)).getD (ptr (T b)) = ptr (T b) := by
      have e : (es.toList.map (·.key))[ks.idxOf b]? = (ks.map (fun k => ptr (T k)))[ks.idxOf b]? := by rw [hk]
      rw [List.getElem?_map, List.getElem?_map, List.getElem?_eq_getElem (List.idxOf_lt_length_of_mem h), List.getElem_idxOf] at e
      rw [← Array.getElem?_toList, e]
      rfl
    have hsame : Instr.sameBits 10000 (ptr (T b)) (ptr (T b)) = true := by unfold Instr.sameBits; simp [ptr]
    have hst : (Instr.keyThatStays (ptr (T b)) (ptr (T b))).run Yba.prog W = .ok (ptr (T b)) W := by
      unfold Instr.keyThatStays
      rw [if_pos hsame]
      rfl
    refine ⟨es.modify (ks.idxOf b) fun e => { e with key := ptr (T b), val := v }, clk, ?_, ?_, ?_⟩
    · simp only [Instr.mapUpdate, Sem.run_bind, run_underlying Yba.underlying53, Result.andThen_ok, hg, hc, hf, hold, hst, hs]
    · rw [← hk]
      apply List.ext_getElem?
      intro j
      have e : (es.toList.map (·.key))[ks.idxOf b]? = (ks.map (fun k => ptr (T k)))[ks.idxOf b]? := by rw [hk]
      rw [List.getElem?_map, List.getElem?_map, List.getElem?_eq_getElem (List.idxOf_lt_length_of_mem h), List.getElem_idxOf] at e
      rw [List.getElem?_map, List.getElem?_map, Array.getElem?_toList, Array.getElem?_toList, Array.getElem?_modify]
      by_cases hj : ks.idxOf b = j
      · subst hj
        rw [Array.getElem?_toList] at e
        rw [if_pos rfl, Option.map_map, e]
        cases hq : es[ks.idxOf b]? with
        | none => rw [hq] at e; simp at e
        | some x => rfl
      · rw [if_neg hj]
    · rw [← idx_set hnd h V v, ← hv]
      apply List.ext_getElem?
      intro j
      rw [List.getElem?_map, Array.getElem?_toList, Array.getElem?_modify, List.getElem?_set, List.getElem?_map, Array.getElem?_toList]
      by_cases hj : ks.idxOf b = j
      · subst hj
        rw [if_pos rfl, if_pos rfl, if_pos (by simpa using hl'), Array.getElem?_eq_getElem hl']
        rfl
      · rw [if_neg hj, if_neg hj]
  · rw [if_neg h] at hf ⊢
    refine ⟨es.push { key := ptr (T b), val := v, born := clk }, clk + 1, ?_, ?_, ?_⟩
    · simp only [Instr.mapUpdate, Sem.run_bind, run_underlying Yba.underlying53, Result.andThen_ok, hg, hc, hf, hs]
    · simp [hk]
    · have e : ks.map V = ks.map (fun x => if x = b then v else V x) := List.map_congr_left (fun x hx => by
        have hx' : x ≠ b := fun e => h (by rw [← e]; exact hx)
        rw [if_neg hx'])
      rw [Array.toList_push, List.map_append, hv, List.map_append, e]
      simp

end Go.Proofs.Ybulkclvu.Own
