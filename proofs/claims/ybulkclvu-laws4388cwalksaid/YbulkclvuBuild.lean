/- zzs4388cbuild: a row of tokens of the call's own, its last one the end. -/
import Derived.Test.YbulkclvuSql
import Derived.Deep.LoopGhost
import Derived.Deep.CutBlock
namespace Go.Proofs.Ybulkclvu.Sql
set_option linter.unusedVariables false
open Go.RowKit Go.Proofs.Ybulkclvu.Mem

/-- A slice of bytes, of strings, that came in: what a walk reads of it. -/
def Kv (w : World) (a : Option Addr) (n : Nat) : Prop := n = 0 ∨ ∃ b off, a = some ⟨b, off, none⟩ ∧ ∀ i, i < n → ∃ z, w.cell? ⟨b, off + i, none⟩ = some (.int .u8 z) ∧ 0 ≤ z ∧ z ≤ 255
def Sv (w : World) (a : Option Addr) (n : Nat) : Prop := n = 0 ∨ ∃ b off, a = some ⟨b, off, none⟩ ∧ ∀ i, i < n → ∃ s, w.cell? ⟨b, off + i, none⟩ = some (.string s)

def kindAt (cs : Array Value) (i : Nat) : Int := match cs[i * 2]? with
  | some (.int _ k) => k
  | _ => 0
def textAt (cs : Array Value) (i : Nat) : ByteArray := match cs[i * 2 + 1]? with
  | some (.string s) => s
  | _ => ByteArray.empty
/-- The first n tokens of a row. -/
def Toks (cs : Array Value) (n : Nat) : Prop := ∀ i, i < n → cs[i * 2]? = some (.int .u8 (kindAt cs i)) ∧ cs[i * 2 + 1]? = some (.string (textAt cs i))

theorem info81 : (Yba.prog.info? 81).map (fun i => (i.zero, i.size, i.bytes)) = some (some (.agg #[.int .u8 0, .string ⟨#[]⟩]), 2, 24) := by kernel_rfl
theorem make_toks (n : Nat) (hn : n ≤ 2000) (w : World) :
    (Instr.makeSlice 74 (.int .i64 0) (.int .i64 ((n : Int) + 1))).run Yba.prog w = .ok (.slice (some ⟨w.heap.size, 0, none⟩) 0 (n + 1)) (w.alloc (.cells (madeCells #[.int .u8 0, .string ⟨#[]⟩] ((n + 1) * 2)) 81)) := by
  obtain ⟨i, hi, hz0, hz1, hz2⟩ := info_parts info81
  have hr := run_make (P := Yba.prog) w 74 81 i (.agg #[.int .u8 0, .string ⟨#[]⟩]) Yba.underlying74 hi hz0 .i64 .i64 0 ((n : Int) + 1) (by omega) (by omega) (by rw [hz2]; omega) (by omega)
  rw [hr, hz1]
  have e : ((n : Int) + 1).toNat = n + 1 := by omega
  rw [e]
  rfl

theorem toks_more {cs : Array Value} {q cap : Nat} {k : Int} {s : ByteArray} (h : Toks cs q) (hsz : cs.size = cap * 2) (hq : q < cap) :
    Toks ((cs.setIfInBounds (q * 2) (.int .u8 k)).setIfInBounds (q * 2 + 1) (.string s)) (q + 1) ∧ kindAt ((cs.setIfInBounds (q * 2) (.int .u8 k)).setIfInBounds (q * 2 + 1) (.string s)) q = k := by
  have e0 : ((cs.setIfInBounds (q * 2) (.int .u8 k)).setIfInBounds (q * 2 + 1) (.string s))[q * 2]? = some (.int .u8 k) := by
    rw [Array.getElem?_setIfInBounds, if_neg (by omega), Array.getElem?_setIfInBounds, if_pos rfl, if_pos (by omega)]
  have e1 : ((cs.setIfInBounds (q * 2) (.int .u8 k)).setIfInBounds (q * 2 + 1) (.string s))[q * 2 + 1]? = some (.string s) := by
    rw [Array.getElem?_setIfInBounds, if_pos rfl, if_pos (by simp; omega)]
  have eo : ∀ j, j < q * 2 → ((cs.setIfInBounds (q * 2) (.int .u8 k)).setIfInBounds (q * 2 + 1) (.string s))[j]? = cs[j]? := fun j hj => by
    rw [Array.getElem?_setIfInBounds, if_neg (by omega), Array.getElem?_setIfInBounds, if_neg (by omega)]
  refine ⟨fun i hi => ?_, by unfold kindAt; rw [e0]⟩
  by_cases e : i = q
  · subst e
    unfold kindAt textAt
    rw [e0, e1]
    exact ⟨rfl, rfl⟩
  · have := h i (by omega)
    unfold kindAt textAt at *
    rw [eo _ (by omega), eo _ (by omega)]
    exact this

/-- The world behind an append of a token, by its row. -/
theorem tok_step {w wr : World} {q cap : Nat} {cs : Array Value} {k : Int} {s : ByteArray} (hU : Un (fun _ _ => False) w wr) (hl : w.heap.size < wr.heap.size) (hcs : wr.heap[w.heap.size]? = some (.cells cs 81 (0, 0))) (hsz : cs.size = cap * 2) (hT : Toks cs q) (hq : q < cap) (o : Array Value) :
    let W := ((wr.setCell ⟨w.heap.size, q * 2, none⟩ (.int .u8 k)).setCell ⟨w.heap.size, q * 2 + 1, none⟩ (.string s)).alloc (.cells o 81)
    Un (fun _ _ => False) w W ∧ w.heap.size < W.heap.size ∧ ∃ cs', W.heap[w.heap.size]? = some (.cells cs' 81 (0, 0)) ∧ cs'.size = cap * 2 ∧ Toks cs' (q + 1) ∧ kindAt cs' q = k := by
  intro W
  refine ⟨((hU.setNew (Nat.le_refl _) _).setNew (Nat.le_refl _) _).alloc _, by simp [W]; omega, _, ?_, ?_, (toks_more (k := k) (s := s) hT hsz hq).1, (toks_more (k := k) (s := s) hT hsz hq).2⟩
  · rw [Below.heap_alloc _ _ _ (by simp; omega)]
    exact heap_setCell_same _ _ _ _ _ _ (heap_setCell_same _ _ _ _ _ _ hcs)
  · simpa using hsz

set_option maxRecDepth 8000 in
set_option maxHeartbeats 1000000 in
theorem build_any (ka ta : Option Addr) (kl kcap tl tcap : Nat) (w : World) (hk : Hid (Kv w ka kl)) (ht : Hid (Sv w ta tl)) (hkl : kl ≤ 1024) (htl : tl ≤ 9223372036854775807) :
    Calls Yba.prog 9 #[.slice ka kl kcap, .slice ta tl tcap] w fun e w' => e = .returned (.slice (some ⟨w.heap.size, 0, none⟩) (kl + 1) (kl + 1)) ∧ Un (fun _ _ => False) w w' ∧
      ∃ cs, w'.heap[w.heap.size]? = some (.cells cs 81 (0, 0)) ∧ cs.size = (kl + 1) * 2 ∧ Toks cs (kl + 1) ∧ kindAt cs kl = 0 := by
  have hmk := make_toks kl (by omega)
  obtain ⟨i81, hi81, hz0, hz1, hz2⟩ := info_parts info81
  go_enter Yba.func9, Yba.ntmps9
  go_wp2_with fail
  go_loopg [5, 15] kl (fun gk toks i wr => ∃ q : Nat, q + gk = kl ∧ i = .int .i64 q ∧ toks = .slice (some ⟨w.heap.size, 0, none⟩) q (kl + 1) ∧ Un (fun _ _ => False) w wr ∧ w.heap.size < wr.heap.size ∧
    ∃ cs, wr.heap[w.heap.size]? = some (.cells cs 81 (0, 0)) ∧ cs.size = (kl + 1) * 2 ∧ Toks cs q)
  case atStart =>
    exact ⟨0, by omega, rfl, rfl, (Un.refl _ _).alloc _, by simp, _, heap_alloc_new _ _, size_madeCells _ _, fun i hi => by omega⟩
  case round =>
    obtain ⟨q, hq, rfl, rfl, hU, hl, cs, hcs, hsz, hT⟩ := hrel
    have HU : Hid (Un (fun _ _ => False) w wr) := hU
    have HC : Hid (wr.heap[w.heap.size]? = some (.cells cs 81 (0, 0))) := hcs
    have HS : Hid (cs.size = (kl + 1) * 2) := hsz
    have HT : Hid (Toks cs q) := hT
    clear hU hcs hsz hT
    by_cases hlt : q < kl
    · obtain ⟨kb, koff, rfl, hkc⟩ : ∃ b off, ka = some ⟨b, off, none⟩ ∧ ∀ i, i < kl → ∃ z, w.cell? ⟨b, off + i, none⟩ = some (.int .u8 z) ∧ 0 ≤ z ∧ z ≤ 255 := hk.out.resolve_left (by omega)
      obtain ⟨z, hz, hz3, hz4⟩ := hkc q hlt
      have hzr : wr.cell? ⟨kb, koff + q, none⟩ = some (.int .u8 z) := (HU.out.cell _ _ (World.block_lt_of_cell? _ _ hz) id).trans hz
      clear hkc hz
      by_cases htz : tl = 0
      · subst htz
        clear htl
        go_wp2_with (at_builtin; refine wpList_append_two _ rfl _ _ 74 rfl 81 i81 Yba.underlying74 hi81 hz1 w.heap.size _ _ cs rfl wr.heap.size 1 rfl ?xa HS.out (Nat.lt_succ_of_lt hlt) (.int .u8 (z % 6)) (.string ⟨#[]⟩) ?xu ?xv rfl rfl ?xd)
        case xa => rw [Below.heap_alloc _ _ _ hl]; exact HC.out
        case xu => simp
        case xv => simp
        go_wp2
        obtain ⟨r1, r2, cs', r3, r4, r5, r6⟩ := tok_step (k := z % 6) (s := ⟨#[]⟩) HU.out hl HC.out HS.out HT.out (Nat.lt_succ_of_lt hlt) #[.int .u8 (z % 6), .string ⟨#[]⟩]
        go_roundg (gk - 1)
        · exact ⟨q + 1, by omega, rfl, rfl, r1, r2, cs', r3, r4, r5⟩
        · omega
      · obtain ⟨tb, toff, rfl, htc⟩ : ∃ b off, ta = some ⟨b, off, none⟩ ∧ ∀ i, i < tl → ∃ s, w.cell? ⟨b, off + i, none⟩ = some (.string s) := ht.out.resolve_left htz
        obtain ⟨m, hm⟩ : ∃ m : Nat, (q : Int) % (tl : Int) = m := ⟨q % tl, by simp⟩
        have hml : m < tl := by have := Int.emod_lt_of_pos (q : Int) (show (0 : Int) < tl by omega); omega
        obtain ⟨s, hs⟩ := htc m hml
        have hsr : wr.cell? ⟨tb, toff + m, none⟩ = some (.string s) := (HU.out.cell _ _ (World.block_lt_of_cell? _ _ hs) id).trans hs
        clear htc hs
        go_wp2_with (at_builtin; refine wpList_append_two _ rfl _ _ 74 rfl 81 i81 Yba.underlying74 hi81 hz1 w.heap.size _ _ cs rfl wr.heap.size 1 rfl ?ya HS.out (Nat.lt_succ_of_lt hlt) (.int .u8 (z % 6)) (.string s) ?yu ?yv rfl rfl ?yd)
        case ya => rw [Below.heap_alloc _ _ _ hl]; exact HC.out
        case yu => simp
        case yv => simp
        go_wp2
        obtain ⟨r1, r2, cs', r3, r4, r5, r6⟩ := tok_step (k := z % 6) (s := s) HU.out hl HC.out HS.out HT.out (Nat.lt_succ_of_lt hlt) #[.int .u8 (z % 6), .string s]
        go_roundg (gk - 1)
        · exact ⟨q + 1, by omega, rfl, rfl, r1, r2, cs', r3, r4, r5⟩
        · omega
    · obtain rfl : q = kl := by omega
      go_wp2_with (at_builtin; refine wpList_append_two _ rfl _ _ 74 rfl 81 i81 Yba.underlying74 hi81 hz1 w.heap.size _ _ cs rfl wr.heap.size 1 rfl ?qa HS.out (Nat.lt_succ_self _) (.int .u8 0) (.string ⟨#[]⟩) ?qu ?qv rfl rfl ?qd)
      case qa => rw [Below.heap_alloc _ _ _ hl]; exact HC.out
      case qu => simp
      case qv => simp
      go_wp2
      go_ret
      obtain ⟨r1, r2, cs', r3, r4, r5, r6⟩ := tok_step (k := 0) (s := ⟨#[]⟩) HU.out hl HC.out HS.out HT.out (Nat.lt_succ_self _) #[.int .u8 0, .string ⟨#[]⟩]
      exact ⟨rfl, r1, cs', r3, r4, r5, r6⟩

end Go.Proofs.Ybulkclvu.Sql
