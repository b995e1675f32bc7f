/- LawS4388BKeeps's walk. -/
import Derived.Test.YbulkclvuOrder
import Derived.Laws.CopyOwn
namespace Go.Proofs.Ybulkclvu.Own
set_option linter.unusedVariables false
open Go.RowKit Go.Proofs.Ybulkclvu.Mem

/-- 'copy' over a whole row of the call's own. -/
theorem wpList_copy_all {P : Program} {w : World} {ops : Array Oper} {rest : List Oper} {o : Oper} {a : Act} {Q : Exit → Act → World → Prop} (hgd : o.guard = none) (d s : Operand) (dT sT : TypeId)
    (ho : o.op = .call { callee := .builtin .copy, args := #[d, s], argTypes := #[dT, sT] }) (elem : TypeId) (hu : P.underlying dT = some (.slice elem)) (hsz : (P.info? elem).map (·.size) = some 1)
    (g n : Nat) (ad : Addr) (sCap : Nat) (hd : a.eval d = .slice (some ⟨g, 0, none⟩) n n) (hs : a.eval s = .slice (some ad) n sCap)
    (cur : Array Value) (t : TypeId) (hg : w.heap[g]? = some (.cells cur t (0, 0))) (hcur : cur.size = n) (cs : List Value) (hn : cs.length = n)
    (hsrc : ∀ j v, cs[j]? = some v → w.cell? (ad.add j) = some v) (h1 : ∀ v ∈ cs, v.oneCell' = true)
    (h : ∀ w', w'.heap[g]? = some (.cells cs.toArray t (0, 0)) → Same (fun b => b = g) w w' → w'.heap.size = w.heap.size → wpList P ops Q rest (a.put o.dst (goInt cs.length)) w') : wpList P ops Q (o :: rest) a w := by
  refine wpList_copy_own hgd d s dT sT ho elem hu hsz g 0 n n ad n sCap hd hs cur t hg cs (by rw [hn]; exact (Nat.min_self n).symm) hsrc (by omega) h1 ?_
  refine h _ ?_ ⟨rfl, rfl, rfl, by simp [World.setRow], fun b _ hb => setRow_other w g b _ hb⟩ (by simp [World.setRow])
  have e : (cur.toList.take 0 ++ (cs ++ cur.toList.drop (0 + cs.length))).toArray = cs.toArray := by
    rw [List.take_zero, List.nil_append, List.drop_of_length_le (by simp; omega), List.append_nil]
  rw [e]
  exact setRow_heap w g cur cs.toArray t (0, 0) hg

theorem size28 : (Yba.prog.info? 28).map (·.size) = some 1 := by kernel_rfl

theorem make_row (a b : Nat) (hab : a ≤ b) (hn : b ≤ 3) (w : World) :
    (Instr.makeSlice 26 (.int .i64 a) (.int .i64 b)).run Yba.prog w = .ok (.slice (some ⟨w.heap.size, 0, none⟩) a b) (w.alloc (.cells (madeCells #[.pointer none] b) 28)) := by
  obtain ⟨i, hi, hz0, hz1, hz2⟩ := info_parts info28
  have hr := run_make (P := Yba.prog) w 26 28 i (.pointer none) Yba.underlying26 hi hz0 .i64 .i64 a b (by omega) (by omega) (by rw [hz2]; omega) (by omega)
  rw [hr, hz1]
  simp
  rfl

/-- The relation of the second loop. -/
def Rel2 (w W : World) (xb tb mb : Nat) (T : Nat → Nat) (sv : Value) (k : Nat) : Prop :=
  ∃ r ks K M V L, LS 2 w W xb tb mb (some r) ks T K M V L L ∧ (∀ t, t < 3 → (L t).length ≤ k + 3) ∧ (∀ t, t < 2 → (K t = true ↔ L t ≠ [])) ∧ K 2 = true ∧ M 2 = sv

/-- The map of one entry. -/
theorem first_entry {W0 : World} {ob : Nat} (hob : Ty W0 ob 49) (v : Value) :
    ∃ W1 es clk, (Instr.mapUpdate 53 (.map (some W0.heap.size)) (.pointer (some ⟨ob, 0, none⟩)) v).run Yba.prog (W0.alloc (.map #[] 0)) = .ok () W1 ∧ W1.heap[W0.heap.size]? = some (.map es clk) ∧ es.toList.map (·.key) = [ptr ob] ∧ es.toList.map (·.val) = [v] ∧
      Same (fun _ => False) W0 W1 ∧ W1.heap.size = W0.heap.size + 1 := by
  obtain ⟨es', clk', h1, h2, h3⟩ := run_update (W := W0.alloc (.map #[] 0)) (T := fun _ => ob) (b := 2) (ks := []) (V := fun _ => v) (heap_alloc_new W0 _) rfl rfl (fun k hk => by simp at hk) (hob.alloc _) (fun k hk => by simp at hk) List.nodup_nil v
  refine ⟨_, es', clk', h1, ?_, by simpa using h2, by simpa using h3, ⟨rfl, rfl, rfl, by simp, fun b hb _ => ?_⟩, by simp⟩
  · simp only
    rw [Array.getElem?_setIfInBounds, if_pos rfl, if_pos (by simp)]
  · simp only
    rw [Array.getElem?_setIfInBounds, if_neg (by omega)]
    exact Below.heap_alloc _ _ _ hb

/-- How it starts. -/
theorem ls_start2 {w W0 W1 : World} {ob : Nat} {old sv : Value} {l : List Nat} {es : Array MapEntry} {clk : Nat} (Z X : Array Value) (hX : X[0]? = some (.map (some W0.heap.size))) (hs0 : Same (fun _ => False) w W0) (hob : Ty W0 ob 49) (ho : W0.ownsRow w.heap.size 28 1 old l.length (l.map ptr)) (hv : W0.ownsRow w.heap.size 28 1 sv l.length (l.map ptr))
    (hap : ∀ g, sv.ownBlock = some g → old.ownBlock ≠ some g) (hm : W1.heap[W0.heap.size]? = some (.map es clk)) (hk : es.toList.map (·.key) = [ptr ob]) (hvl : es.toList.map (·.val) = [old]) (hs1 : Same (fun _ => False) W0 W1) (hsz : W1.heap.size = W0.heap.size + 1) (hl : l.length ≤ 3) :
    Rel2 w (((((W1.alloc (.cells X 59)).alloc (.cells Z 49)).alloc (.cells Z 49)).alloc (.cells #[.pointer (some ⟨W1.heap.size + 1, 0, none⟩), .pointer (some ⟨W1.heap.size + 1 + 1, 0, none⟩)] 23)).alloc (.cells (madeCells #[.slice none 0 0] 2) 26))
      W1.heap.size (W1.heap.size + 3) (W1.heap.size + 4) (fun t => if t = 0 then W1.heap.size + 1 else if t = 1 then W1.heap.size + 2 else ob) sv 0 := by
  generalize hW : ((((W1.alloc (.cells X 59)).alloc (.cells Z 49)).alloc (.cells Z 49)).alloc (.cells #[.pointer (some ⟨W1.heap.size + 1, 0, none⟩), .pointer (some ⟨W1.heap.size + 1 + 1, 0, none⟩)] 23)).alloc (.cells (madeCells #[.slice none 0 0] 2) 26) = W
  have h0 : W.heap[W1.heap.size]? = some (.cells X 59 (0, 0)) := by rw [← hW, old_at _ _ _ (by simp only [size_at]; omega), old_at _ _ _ (by simp only [size_at]; omega), old_at _ _ _ (by simp only [size_at]; omega), old_at _ _ _ (by simp only [size_at]; omega), new_at _ _ _ rfl]
  have h1 : W.heap[W1.heap.size + 1]? = some (.cells Z 49 (0, 0)) := by rw [← hW, old_at _ _ _ (by simp only [size_at]; omega), old_at _ _ _ (by simp only [size_at]; omega), old_at _ _ _ (by simp only [size_at]; omega), new_at _ _ _ (by simp only [size_at])]
  have h2 : W.heap[W1.heap.size + 2]? = some (.cells Z 49 (0, 0)) := by rw [← hW, old_at _ _ _ (by simp only [size_at]; omega), old_at _ _ _ (by simp only [size_at]; omega), new_at _ _ _ (by simp only [size_at])]
  have h3 : W.heap[W1.heap.size + 3]? = some (.cells #[.pointer (some ⟨W1.heap.size + 1, 0, none⟩), .pointer (some ⟨W1.heap.size + 1 + 1, 0, none⟩)] 23 (0, 0)) := by rw [← hW, old_at _ _ _ (by simp only [size_at]; omega), new_at _ _ _ (by simp only [size_at])]
  have h4 : W.heap[W1.heap.size + 4]? = some (.cells (madeCells #[.slice none 0 0] 2) 26 (0, 0)) := by rw [← hW, new_at _ _ _ (by simp only [size_at])]
  have hs2 : Same (fun _ => False) W1 W := by
    rw [← hW]
    exact (((((Same.refl _ W1).alloc _).alloc _).alloc _).alloc _).alloc _
  have hs : Same (fun _ => False) W0 W := hs1.trans hs2
  have hmW : W.heap[W0.heap.size]? = some (.map es clk) := by rw [hs2.block _ (by omega) id]; exact hm
  have hobl := hob.lt
  have hs0l := hs0.size
  refine ⟨W0.heap.size, [2], fun t => t == 2, fun t => if t = 2 then sv else .slice none 0 0, fun t => if t = 2 then old else .slice none 0 0, fun t => if t = 2 then l else [], ?_, ?_, ?_, rfl, rfl⟩
  case refine_2 =>
    intro t _
    show (if t = 2 then l else []).length ≤ 0 + 3
    split
    · omega
    · simp
  case refine_3 =>
    intro t ht
    show (t == 2) = true ↔ (if t = 2 then l else []) ≠ []
    rw [if_neg (by omega)]
    simp
    omega
  have own3 : ∀ v, W0.ownsRow w.heap.size 28 1 v l.length (l.map ptr) → ∀ s, W.ownsRow w.heap.size 28 1 (if s = 2 then v else .slice none 0 0) (if s = 2 then l else []).length ((if s = 2 then l else []).map ptr) := fun v hv s => by
    by_cases e : s = 2
    · rw [if_pos e, if_pos e]
      exact hs.owns hv (fun _ _ => id)
    · rw [if_neg e, if_neg e]
      exact World.ownsRow_nil _ _ _ _
  have blk : ∀ (v : Value) (s g : Nat), (if s = 2 then v else .slice none 0 0 : Value).ownBlock = some g → s = 2 ∧ v.ownBlock = some g := fun v s g h => by
    by_cases e : s = 2
    · rw [if_pos e] at h
      exact ⟨e, h⟩
    · rw [if_neg e] at h
      simp [Value.ownBlock] at h
  exact {
    que := {
      tx := fun t ht => by
        rcases (show t = 0 ∨ t = 1 ∨ t = 2 by omega) with e | e | e
        · subst e; exact ⟨Z, h1⟩
        · subst e; exact ⟨Z, h2⟩
        · subst e; exact hs.ty hob id
      inj := fun s t hs' ht e => by
        rcases (show s = 0 ∨ s = 1 ∨ s = 2 by omega) with e1 | e1 | e1 <;> rcases (show t = 0 ∨ t = 1 ∨ t = 2 by omega) with e2 | e2 | e2 <;> subst e1 <;> subst e2 <;> simp at e ⊢ <;> omega
      xty := ⟨X, h0⟩
      x0 := by rw [cell_of_row _ _ _ _ _ _ h0]; exact hX
      mp := fun r e => by
        cases e
        exact ⟨es, clk, hmW, hk, hvl⟩
      mn := fun e => by cases e
      sub := fun s e => by simp at e; omega
      nd := by simp
      key := fun s _ => by simp
      abs := fun s _ e => by
        simp at e
        rw [if_neg e]
      len := rfl
      own := fun s _ => own3 old ho s
      apart := fun s t _ _ hst g e e' => by
        obtain ⟨e1, _⟩ := blk _ _ _ e
        obtain ⟨e2, _⟩ := blk _ _ _ e'
        omega }
    same := hs0.trans hs
    tty := ⟨_, h3⟩
    tbl := fun t ht => by
      rw [cell_of_row _ _ _ _ _ _ h3]
      rcases (show t = 0 ∨ t = 1 by omega) with e | e
      · subst e; rfl
      · subst e; rfl
    mty := ⟨_, h4⟩
    mnew := by omega
    xnew := by omega
    rnew := fun r e => by cases e; exact hs0l
    mcell := fun t ht => by
      rw [cell_of_row _ _ _ _ _ _ h4, if_neg (by omega)]
      exact made_at _ 2 t ht
    mown := fun s _ => own3 sv hv s
    apM := fun s t _ _ hst g e e' => by
      obtain ⟨e1, _⟩ := blk _ _ _ e
      obtain ⟨e2, _⟩ := blk _ _ _ e'
      omega
    apV := fun s t _ _ g e e' => by
      obtain ⟨_, e1⟩ := blk _ _ _ e
      obtain ⟨_, e2⟩ := blk _ _ _ e'
      exact hap g e1 e2 }

/-- The first loop: the requests of the other transaction. -/
structure OldRel (w W : World) (q : Nat) (l : List Nat) (g c : Nat) : Prop where
  len : l.length = q
  own : W.ownsRow w.heap.size 28 1 (.slice (some ⟨g, 0, none⟩) q c) q (l.map ptr)
  same : Same (fun _ => False) w W
  other : Ty W w.heap.size 49

theorem old_start (w : World) (Z : Array Value) (kk : Nat) (hk : kk ≤ 3) : OldRel w ((w.alloc (.cells Z 49)).alloc (.cells (madeCells #[.pointer none] kk) 28)) 0 [] (w.heap.size + 1) kk where
  len := rfl
  own := by
    refine ⟨rfl, .inr ⟨w.heap.size + 1, kk, madeCells #[.pointer none] kk, rfl, by omega, ?_, by omega, by unfold maxLen; omega, by rw [size_madeCells]; omega, by simp⟩⟩
    exact new_at _ _ _ (by rw [size_at])
  same := ((Same.refl _ _).alloc _).alloc _
  other := (Ty.new _ _ _).alloc _

theorem old_step {w W A w1 : World} {q : Nat} {l : List Nat} {g c g' c' rb : Nat} (h : OldRel w W q l g c) (hA : Same (fun _ => False) W A) (hg : A.grownBy w1 (Value.slice (some ⟨g, 0, none⟩) q c).ownBlock)
    (hown : w1.ownsRow w.heap.size 28 1 (.slice (some ⟨g', 0, none⟩) (q + 1) c') (q + 1) (l.map ptr ++ [.pointer (some ⟨rb, 0, none⟩)])) : OldRel w w1 (q + 1) (l ++ [rb]) g' c' := by
  have hS1 : Same (fun b => b = g) W w1 := (hA.mono (fun _ _ h => h.elim)).grown hg (fun b hb => .inl (by simp [Value.ownBlock] at hb; exact hb.symm))
  have hgt : Ty W g 28 := own_ty h.own rfl
  exact {
    len := by simp [h.len]
    own := by rw [List.map_append]; exact hown
    same := same_drop h.same hS1 (fun i e => by rw [e]; exact own_ge h.own rfl)
    other := hS1.ty h.other (fun e => h.other.ne hgt (by decide) e) }

set_option maxRecDepth 8000 in
set_option maxHeartbeats 4000000 in
theorem keeps_any (a0 : Option Addr) (n cap : Nat) (pre : Int) (w : World) (hk : Hid (Kv w a0 n)) (hpre : 0 ≤ pre ∧ pre ≤ 255) :
    Calls Yba.prog 4 #[.slice a0 n cap, .int .u8 pre] w fun e w' => e = .returned (.bool true) ∧ Below w.heap.size w w' := by
  obtain ⟨Z, hZ⟩ := zero49
  obtain ⟨kk, hkk⟩ : ∃ k : Nat, pre % 4 = k := ⟨(pre % 4).toNat, by omega⟩
  have hk3 : kk ≤ 3 := by omega
  obtain ⟨hp0, hp1⟩ := hpre
  have hmm : ∀ w, (Instr.makeSlice 51 (.int .i64 2) (.int .i64 2)).run Yba.prog w = .ok (.slice (some ⟨w.heap.size, 0, none⟩) 2 2) (w.alloc (.cells (madeCells #[.slice none 0 0] 2) 26)) := make_model 2 (by omega)
  have hm0 : ∀ w, (Instr.makeSlice 26 (.int .i64 0) (.int .i64 kk)).run Yba.prog w = .ok (.slice (some ⟨w.heap.size, 0, none⟩) 0 kk) (w.alloc (.cells (madeCells #[.pointer none] kk) 28)) := make_row 0 kk (by omega) hk3
  have hmk : ∀ w, (Instr.makeSlice 26 (.int .i64 kk) (.int .i64 kk)).run Yba.prog w = .ok (.slice (some ⟨w.heap.size, 0, none⟩) kk kk) (w.alloc (.cells (madeCells #[.pointer none] kk) 28)) := make_row kk kk (by omega) hk3
  obtain ⟨i28, hi28, hz0, hz1, hz2⟩ := info_parts info28
  have hmp := make_map
  go_enter Yba.func4, Yba.ntmps4
  by_cases hn : 1024 < n
  · go_wp2
    go_ret
    exact ⟨rfl, Below.refl _ _⟩
  · have hn' : n ≤ 1024 := by omega
    clear hn
    go_upto_block 0 with fail
    go_wp2_with fail
    clear hkk hp0 hp1
    go_loopg [7, 8] kk (fun gk v i wr => ∃ q l g c, q + gk = kk ∧ i = .int .i64 ((q : Nat) : Int) ∧ v = .slice (some ⟨g, 0, none⟩) q c ∧ OldRel w wr q l g c)
    case atStart => exact ⟨0, [], _, _, by omega, rfl, rfl, old_start w Z kk hk3⟩
    case round =>
      obtain ⟨q, l, g, c, hq, rfl, rfl, hold⟩ := hrel
      have H := show Hid _ from hold
      clear hold
      by_cases hlt : q < kk
      · go_wp2_with (at_builtin; refine wpList_append_lies _ rfl (.tmp 33) (.tmp 39) 26 rfl w.heap.size 28 i28 (.pointer none) 1 8 Yba.underlying26 hi28 hz0 hz1 hz2 rfl (by decide) (.slice (some ⟨g, 0, none⟩) q c) q (l.map ptr) rfl ?ma ⟨wr.heap.size + 1, 0, none⟩ 1 1 [.pointer (some ⟨wr.heap.size, 0, none⟩)] rfl rfl ?mb ?mc (by decide) ?md ?me ?mf _ rfl ?mg)
        case ma => exact (H.out.own.alloc _).alloc _
        case mb =>
          have h := cell_one_new (wr.alloc (.cells #[.pointer none, .pointer none, .pointer none, .pointer (some ⟨w.heap.size, 0, none⟩), .int .u8 0, .int .u8 0, .bool false, .bool false, .pointer none, .pointer none, .int .u64 q, .pointer none, .pointer none, .nilIface, .bool false] 67)) (.pointer (some ⟨wr.heap.size, 0, none⟩)) 28
          rw [size_at] at h
          exact h
        case mc =>
          intro u hu
          simp at hu
          subst hu
          rfl
        case md => unfold maxLen; omega
        case me => omega
        case mf => have := H.out.same.size; simp; omega
        intro g' c' w2 hown hgrow hat hlt2
        have H2 := old_step (rb := wr.heap.size) H.out (((Same.refl _ _).alloc _).alloc _) hgrow hown
        have HH := show Hid _ from H2
        clear H2 hown hgrow hat
        go_wp2
        go_roundg (gk - 1)
        case measure => omega
        case rel => exact ⟨q + 1, l ++ [wr.heap.size], g', c', by omega, by go_num, rfl, HH.out⟩
      · obtain rfl : q = kk := by omega
        clear hm0
        go_upto_region 11 with fail
        go_wp2_with (refine wpList_copy_all rfl (.tmp 43) (.tmp 44) 26 26 rfl 28 Yba.underlying26 size28 wr.heap.size q ⟨g, 0, none⟩ c rfl rfl (madeCells #[.pointer none] q) 28 (heap_alloc_new _ _) (size_madeCells _ _) (l.map ptr) ?ca ?cb ?cc ?cd)
        case ca => rw [List.length_map]; exact H.out.len
        case cb => exact fun j v hj => (H.out.own.alloc _).cells rfl j v hj
        case cc =>
          intro v hv
          simp at hv
          obtain ⟨b, _, rfl⟩ := hv
          rfl
        intro W0 hg0 hS0 hs0
        have hgl : g < wr.heap.size := (own_ty H.out.own rfl).lt
        have hsame0 : Same (fun _ => False) w W0 := same_drop (H.out.same.alloc _) hS0 (fun i e => by rw [e]; exact H.out.same.size)
        have hob : Ty W0 w.heap.size 49 := hS0.ty (H.out.other.alloc _) (fun e => by have := H.out.other.lt; omega)
        have ho : W0.ownsRow w.heap.size 28 1 (.slice (some ⟨g, 0, none⟩) l.length c) l.length (l.map ptr) := by
          rw [H.out.len]
          exact hS0.owns (H.out.own.alloc _) (fun g' hg' e => by simp [Value.ownBlock] at hg'; omega)
        have hv : W0.ownsRow w.heap.size 28 1 (.slice (some ⟨wr.heap.size, 0, none⟩) l.length l.length) l.length (l.map ptr) :=
          ⟨by simp, .inr ⟨wr.heap.size, l.length, _, rfl, H.out.same.size, hg0, Nat.le_refl _, by rw [H.out.len]; unfold maxLen; omega, by simp, List.take_of_length_le (by simp)⟩⟩
        obtain ⟨W1, es, clk, hins, hme, hke, hve, hS1, hsz1⟩ := first_entry hob (.slice (some ⟨g, 0, none⟩) l.length c)
        rw [H.out.len] at hins
        have hl3 : l.length ≤ 3 := by rw [H.out.len]; exact hk3
        have hrel : ∀ X : Array Value, X[0]? = some (.map (some W0.heap.size)) → _ := fun X hX => ls_start2 (sv := .slice (some ⟨wr.heap.size, 0, none⟩) l.length l.length) Z X hX hsame0 hob ho hv (fun g' hg' e => by simp [Value.ownBlock] at hg' e; omega) hme hke hve hS1 hsz1 hl3
        rw [H.out.len] at hrel
        have HR := show Hid _ from hrel
        clear hrel hob ho hv hme hke hve hS1 hsame0 hS0 hg0 hs0 hl3 hsz1
        go_upto_region 15 with fail
        refine forget_world (fun W => Rel2 w W _ _ _ _ _ 0) (HR.out _ rfl) ?ra
        intro Y hY
        obtain ⟨T, hT⟩ : ∃ T, T = fun t => if t = 0 then W1.heap.size + 1 else if t = 1 then W1.heap.size + 2 else w.heap.size := ⟨_, rfl⟩
        rw [← hT] at hY
        have hT2 : T 2 = w.heap.size := by rw [hT]; rfl
        obtain ⟨xb, hxb⟩ : ∃ b, b = W1.heap.size := ⟨_, rfl⟩
        obtain ⟨tb, htb⟩ : ∃ b, b = W1.heap.size + 3 := ⟨_, rfl⟩
        obtain ⟨mb, hmb⟩ : ∃ b, b = W1.heap.size + 4 := ⟨_, rfl⟩
        rw [← htb, ← hmb, ← hxb] at hY
        have e1 : W1.heap.size + 1 + 1 + 1 = tb := by omega
        have e2 : W1.heap.size + 1 + 1 + 1 + 1 = mb := by omega
        rw [e2, e1, ← hxb]
        have HW : Hid (Rel2 w Y xb tb mb T (.slice (some ⟨wr.heap.size, 0, none⟩) q q) 0) := hY
        clear hY hT htb hmb hxb e1 e2 HR hins hgl H hmk hmm hZ hmp
        obtain ⟨sb, hsb⟩ : ∃ b, b = wr.heap.size := ⟨_, rfl⟩
        rw [← hsb] at HW ⊢
        clear hsb hlt hq
        go_wp2_with fail
        go_loopg [58] n (fun gk i W => ∃ k, k + gk = n ∧ i = .int .i64 ((k : Nat) : Int) ∧ Rel2 w W xb tb mb T (.slice (some ⟨sb, 0, none⟩) q q) k)
        case atStart => exact ⟨0, by omega, rfl, HW.out⟩
        case round =>
          obtain ⟨k, hkg, rfl, r, ks, K, M, V, L, hLS, hlen, hkey, hK2, hM2⟩ := hrel
          have H := show Hid _ from hLS
          have HL := show Hid _ from hlen
          have HK := show Hid _ from hkey
          have HM2 := show Hid _ from hM2
          have HK2 := show Hid _ from hK2
          clear hLS hlen hkey hK2 hM2 HW
          by_cases hlt : k < n
          · obtain ⟨kb, koff, rfl, hkc⟩ := hk.out.resolve_left (by omega)
            obtain ⟨z, hz, hz3, hz4⟩ := hkc k hlt
            have hzr : wr.cell? ⟨kb, koff + k, none⟩ = some (.int .u8 z) := H.out.same.cell hz id
            obtain ⟨t, htz⟩ : ∃ t : Nat, z % 2 = t := ⟨(z % 2).toNat, by omega⟩
            have ht : t < 2 := by omega
            have ht3 : t < 3 := by omega
            have hti : (t : Int) < 2 := by omega
            clear hkc hz
            have ht1 := H.out.tbl t ht
            have htl : tb < wr.heap.size := World.block_lt_of_cell? _ _ ht1
            go_wp2_with fail
            refine (addOwn_any _ w.heap.size xb (some r) ks T K V L t wr.heap.size ht3 (H.out.que.keepNew ((Same.refl _ _).alloc _)) (by have := HL.out t ht3; omega) (Nat.le_trans H.out.same.size (by simp)) (Ty.new _ _ _) (cell_last _ _ _ _)).mono ?_
            rintro e W2 ⟨rfl, hAdd⟩
            obtain ⟨r', ks', v, hLS1, hsz⟩ := ls_added ht3 (H.out.keepNew ((Same.refl _ _).alloc _)) hAdd
            have H1 := show Hid _ from hLS1
            have hrb : wr.heap.size < W2.heap.size := by simp at hsz; omega
            clear hAdd hLS1 hsz
            have hm1 := H1.out.mcell t ht
            have hml : mb < W2.heap.size := World.block_lt_of_cell? _ _ hm1
            go_wp2_with (at_builtin; refine wpList_append_lies _ rfl (.tmp 83) (.tmp 85) 26 rfl w.heap.size 28 i28 (.pointer none) 1 8 Yba.underlying26 hi28 hz0 hz1 hz2 rfl (by decide) (M t) (L t).length ((L t).map ptr) rfl ?na ⟨W2.heap.size, 0, none⟩ 1 1 [.pointer (some ⟨wr.heap.size, 0, none⟩)] rfl rfl ?nb ?nc (by decide) ?nd ?ne ?nf _ rfl ?ng)
            case na => exact (H1.out.mown t ht3).alloc _
            case nb => exact cell_one_new W2 _ 28
            case nc =>
              intro u hu
              simp at hu
              subst hu
              rfl
            case nd => have := HL.out t ht3; unfold maxLen; omega
            case ne => have := HL.out t ht3; omega
            case nf => have := H1.out.same.size; simp; omega
            intro g' cap' w2 hown hgrow hat hlt2
            obtain ⟨hS2, hLS2⟩ := ls_model (rb := wr.heap.size) ht (by omega) H1.out ((Same.refl _ _).alloc _) hgrow hown (by simpa using hat)
            have hmne : (M t).ownBlock ≠ some mb := fun e => (own_ty (H1.out.mown t ht3) e).ne H1.out.mty (by decide) rfl
            have hc2 := hS2.cell hm1 hmne
            have hf2 := (hS2.ty H1.out.mty hmne).frozen t
            have H2 := show Hid _ from hLS2
            clear hown hgrow hat hLS2 hS2 hm1
            go_wp2
            go_roundg (gk - 1)
            case measure => omega
            case rel =>
              refine ⟨k + 1, by omega, by go_num, _, _, _, _, _, _, H2.out, ?_, ?_, ?_, ?_⟩
              · intro s hs
                have := HL.out s hs
                by_cases e : s = t
                · subst e
                  rw [upd_same]
                  simp
                  omega
                · rw [upd_other _ _ e]
                  omega
              · intro s hs
                by_cases e : s = t
                · subst e
                  rw [upd_same, upd_same]
                  simp
                · rw [upd_other _ _ e, upd_other _ _ e]
                  exact HK.out s hs
              · rw [upd_other _ _ (by omega)]; exact HK2.out
              · rw [upd_other _ _ (by omega)]; exact HM2.out
          · obtain rfl : k = n := by omega
            have x0 := H.out.que.x0
            have hno := map_no
            have lk := H.out.que.look (t := 2) (by omega)
            rw [hT2] at lk
            have lk : (Instr.lookup 53 (.map (some r)) (.pointer (some ⟨w.heap.size, 0, none⟩)) false).run Yba.prog wr = .ok (V 2) wr := lk
            go_wp2_with fail
            have hM2o := H.out.mown 2 (by omega)
            rw [HM2.out] at hM2o
            refine (same_any wr w.heap.size _ _ (L 2) (by have := HL.out 2 (by omega); omega) (H.out.que.own 2 (by omega)) hM2o).mono ?_
            rintro e W3 ⟨rfl, nd, rfl⟩
            have hLS3 := H.out.keepNew (drewN_same wr nd)
            have H3 := show Hid _ from hLS3
            clear hLS3 hM2o lk
            have x3 := H3.out.que.x0
            go_wp2_with fail
            go_loopg [17, 18] 2 (fun gk d i W => ∃ s, s + gk = 2 ∧ i = .int .i64 ((s : Nat) : Int) ∧ d = .int .i64 (((1 + cnt K s : Nat)) : Int) ∧ LS 2 w W xb tb mb (some r) ks T K M V L L)
            case atStart => exact ⟨0, by omega, rfl, rfl, H3.out⟩
            case round =>
              obtain ⟨s, hs, rfl, rfl, hLS'⟩ := hrel
              clear H x0 H3 x3
              have x0 := hLS'.que.x0
              have H := show Hid _ from hLS'
              clear hLS'
              by_cases hs2 : s < 2
              · have hs3 : s < 3 := by omega
                obtain ⟨am, cm, hM, _⟩ := own_form (H.out.mown s hs3) rfl
                have c1 := H.out.mcell s hs2
                have c2 := H.out.tbl s hs2
                rw [hM] at c1
                have lk : ∀ n, (Instr.lookup 53 (.map (some r)) (.pointer (some ⟨T s, 0, none⟩)) false).run Yba.prog (wr.drewN n) = .ok (V s) (wr.drewN n) := fun n => (H.out.que.keepNew (drewN_same wr n)).look hs3
                have hMo := H.out.mown s hs3
                rw [hM] at hMo
                have hcl := cnt_le K s
                have hll := HL.out s hs3
                by_cases hp : 0 < (L s).length
                · have hKq : K s = true := (HK.out s hs2).2 (by intro e; rw [e] at hp; simp at hp)
                  go_wp2
                  go_quiet (refine Calls.quiet_of (same_any _ w.heap.size _ _ (L s) (by have := HL.out s hs3; omega) ((drewN_same wr _).owns (H.out.que.own s hs3) (fun _ _ => id)) ((drewN_same wr _).owns hMo (fun _ _ => id))))
                  go_wp2
                  go_roundg (gk - 1)
                  case measure => omega
                  case rel => exact ⟨s + 1, by omega, by go_num, by rw [cnt, hKq]; simp; omega, H.out.keepNew (drewN_same _ _)⟩
                · have hl0 : (L s).length = 0 := by omega
                  have hKq : K s = false := by
                    cases e : K s with
                    | false => rfl
                    | true => exact absurd (List.eq_nil_of_length_eq_zero hl0) ((HK.out s hs2).1 e)
                  have hLq : L s = [] := List.eq_nil_of_length_eq_zero hl0
                  have hVo := H.out.que.own s hs3
                  rw [hLq] at hVo hMo c1
                  have HV := show Hid _ from hVo
                  have HO := show Hid _ from hMo
                  clear hVo hMo hl0 hp hll hLq
                  go_wp2
                  go_quiet (refine Calls.quiet_of (same_any _ w.heap.size _ _ [] (by simp) ((drewN_same wr _).owns HV.out (fun _ _ => id)) ((drewN_same wr _).owns HO.out (fun _ _ => id))))
                  go_wp2
                  go_roundg (gk - 1)
                  case measure => omega
                  case rel => exact ⟨s + 1, by omega, by go_num, by rw [cnt, hKq]; simp, H.out.keepNew (drewN_same _ _)⟩
              · obtain rfl : s = 2 := by omega
                obtain ⟨es, clk, hm, hk1, _⟩ := H.out.que.mp r rfl
                have hes : es.size = 1 + cnt K 2 := by
                  have e := congrArg List.length hk1
                  simp at e
                  rw [e, H.out.que.len, HK2.out]
                  simp [cnt]
                  omega
                have hln := run_len_map hm
                rw [hes] at hln
                go_wp2
                go_ret
                exact ⟨rfl, H.out.same.below (Nat.le_refl _) (fun _ h => h.elim)⟩
end Go.Proofs.Ybulkclvu.Own
