/- (*queueIndex).addOwn: one more request under its transaction. -/
import Derived.Test.YbulkclvuQueue
import Derived.Deep.RegionHeldLaw
import Derived.Deep.Draws
import Derived.Deep.CutBlock
namespace Go.Proofs.Ybulkclvu.Own
set_option linter.unusedVariables false
open Go.RowKit Go.Proofs.Ybulkclvu.Mem

theorem info28 : (Yba.prog.info? 28).map (fun i => (i.zero, i.size, i.bytes)) = some (some (.pointer none), 1, 8) := by kernel_rfl

theorem map_no (r : Nat) (W : World) : (binOp .eql 53 (.map (some r)) (.map none)).run Yba.prog W = .ok (.bool false) W := by
  have h : ∀ d : Nat, (Op.equalIn (d + 1) 53 (.map (some r)) (.map none)).run Yba.prog W = .ok false W := fun d => by
    simp [Op.equalIn, run_underlying Yba.underlying53]
  simp only [binOp]
  simp [Op.equal, Op.maxDepth, h 9999]

theorem make_map (W : World) : (Instr.makeMap 53 none).run Yba.prog W = .ok (.map (some W.heap.size)) (W.alloc (.map #[] 0)) := by
  simp [Instr.makeMap]

theorem map_yes (W : World) : (binOp .eql 53 (.map none) (.map none)).run Yba.prog W = .ok (.bool true) W := by
  have h : ∀ d : Nat, (Op.equalIn (d + 1) 53 (.map none) (.map none)).run Yba.prog W = .ok true W := fun d => by
    simp [Op.equalIn, run_underlying Yba.underlying53]
  simp only [binOp]
  simp [Op.equal, Op.maxDepth, h 9999]

/-- What addOwn leaves. -/
def Added (W : World) (B xb : Nat) (mr : Option Nat) (T : Nat → Nat) (K : Nat → Bool) (V : Nat → Value) (L : Nat → List Nat) (t rb : Nat) (W' : World) : Prop :=
  ∃ r ks v, Que W' B xb (some r) ks T (upd K t true) (upd V t v) (upd L t (L t ++ [rb])) ∧ Same (fun b => b = xb ∨ mr = some b ∨ (V t).ownBlock = some b) W W' ∧
    (mr = some r ∨ W.heap.size ≤ r) ∧ (∀ g, v.ownBlock = some g → (V t).ownBlock = some g ∨ W.heap.size ≤ g)

theorem que_step' {W A w1 : World} {B xb r t rb g cap : Nat} {ks : List Nat} {T : Nat → Nat} {K : Nat → Bool} {V : Nat → Value} {L : Nat → List Nat} (h : Que W B xb (some r) ks T K V L) (ht : t < 3)
    (hA : Same (fun _ => False) W A) (hg : A.grownBy w1 (V t).ownBlock) (hown : w1.ownsRow B 28 1 (.slice (some ⟨g, 0, none⟩) ((L t).length + 1) cap) ((L t).length + 1) ((L t).map ptr ++ [.pointer (some ⟨rb, 0, none⟩)]))
    (hat : (V t).ownBlock = some g ∨ g = A.heap.size) :
    ∃ W2, (Instr.mapUpdate 53 (.map (some r)) (.pointer (some ⟨T t, 0, none⟩)) (.slice (some ⟨g, 0, none⟩) ((L t).length + 1) cap)).run Yba.prog w1 = .ok () W2 ∧
      ∃ ks', Que W2 B xb (some r) ks' T (upd K t true) (upd V t (.slice (some ⟨g, 0, none⟩) ((L t).length + 1) cap)) (upd L t (L t ++ [rb])) ∧
      Same (fun b => b = r ∨ (V t).ownBlock = some b) W W2 ∧ Same (fun b => (V t).ownBlock = some b) W w1 := by
  obtain ⟨es', clk', h1, ks', h2, h3⟩ := que_step h ht hA hg hown hat
  exact ⟨_, h1, ks', h2, h3, (hA.mono (fun _ _ h => h.elim)).grown hg (fun g hg => .inl hg)⟩

theorem drewN_same (W : World) (n : Nat) : Same (fun _ => False) W (W.drewN n) := (Same.refl _ _).drewN n

set_option maxRecDepth 8000 in
set_option maxHeartbeats 2000000 in
theorem addOwn_some (W : World) (B xb r : Nat) (ks : List Nat) (T : Nat → Nat) (K : Nat → Bool) (V : Nat → Value) (L : Nat → List Nat) (t rb : Nat) (ht : t < 3) (hQ : Hid (Que W B xb (some r) ks T K V L)) (hl : (L t).length ≤ 2000) (hB : B ≤ W.heap.size)
    (h67 : Ty W rb 67) (h3 : W.cell? ⟨rb, 3, none⟩ = some (.pointer (some ⟨T t, 0, none⟩))) :
    Calls Yba.prog 7 #[.pointer (some ⟨xb, 0, none⟩), .pointer (some ⟨rb, 0, none⟩)] W fun e W' => e = .returned (.tuple #[]) ∧ Added W B xb (some r) T K V L t rb W' := by
  have x0 := hQ.out.x0
  have hxl : xb < W.heap.size := World.block_lt_of_cell? _ _ x0
  have hrl : rb < W.heap.size := World.block_lt_of_cell? _ _ h3
  obtain ⟨i28, hi28, hz0, hz1, hz2⟩ := info_parts info28
  have hty : ∀ b u, Ty W b u → u ≠ 28 → (V t).ownBlock ≠ some b := fun b u hb hu e => (hb.ne (own_ty (hQ.out.own t ht) e) hu) rfl
  have hner : ∀ b u, Ty W b u → b ≠ r := fun b u hb e => by
    subst e
    obtain ⟨es, clk, e1, _⟩ := hQ.out.mp b rfl
    obtain ⟨cs, hc⟩ := hb
    rw [hc] at e1
    cases e1
  have hno := map_no
  go_enter Yba.func7, Yba.ntmps7
  go_upto_region 2 with fail
  have hA : Same (fun _ => False) W (W.alloc (.cells #[.pointer (some ⟨rb, 0, none⟩)] 28)).drew := ((Same.refl _ W).alloc _).drewN 1
  have hq2 := hQ.out.keepNew hA
  have lk1 : (Instr.lookup 53 (.map (some r)) (.pointer (some ⟨T t, 0, none⟩)) false).run Yba.prog W.drew = .ok (V t) W.drew := (hQ.out.keepNew (drewN_same W 1)).look ht
  have lk2 : (Instr.lookup 53 (.map (some r)) (.pointer (some ⟨T t, 0, none⟩)) false).run Yba.prog (W.alloc (.cells #[.pointer (some ⟨rb, 0, none⟩)] 28)).drew = .ok (V t) (W.alloc (.cells #[.pointer (some ⟨rb, 0, none⟩)] 28)).drew := hq2.look ht
  have HW := show Hid _ from hq2
  have HA := show Hid _ from hA
  have hnw : ∀ j u, [Value.pointer (some ⟨rb, 0, none⟩)][j]? = some u → (W.alloc (.cells #[.pointer (some ⟨rb, 0, none⟩)] 28)).drew.cell? ((⟨W.heap.size, 0, none⟩ : Addr).add j) = some u := cell_one_new W _ 28
  have HN := show Hid _ from hnw
  have hone : ∀ u ∈ [Value.pointer (some ⟨rb, 0, none⟩)], u.oneCell' = true := fun u hu => by
    simp at hu
    subst hu
    rfl
  have HO := show Hid _ from hone
  have hB2 : B ≤ (W.alloc (.cells #[.pointer (some ⟨rb, 0, none⟩)] 28)).drew.heap.size := Nat.le_trans hB HA.out.size
  have HB := show Hid _ from hB2
  clear hq2 hA hnw hone hB2
  go_region_held_law (fun w' => w'.cell? ⟨xb, 0, none⟩ = some (.map (some r)) ∧ w'.cell? ⟨rb, 3, none⟩ = some (.pointer (some ⟨T t, 0, none⟩))) (go_keep)
    ((refine step_append_lies _ rfl (.tmp 29) (.tmp 31) 26 rfl B 28 i28 (.pointer none) 1 8 Yba.underlying26 hi28 hz0 hz1 hz2 rfl (by decide) (V t) (L t).length ((L t).map ptr) (by simp [Act.eval]) (HW.out.own t ht) ⟨W.heap.size, 0, none⟩ 1 1 [.pointer (some ⟨rb, 0, none⟩)] (by simp [Act.eval]) rfl HN.out HO.out (by decide) (by unfold maxLen; omega) (by omega) HB.out _ rfl ?_
      intro g cap w1 hown hgrow hat hlt
      obtain ⟨W2, hup, ks', hq', hs', hs1⟩ := que_step' hQ.out ht HA.out hgrow hown hat
      have c1 := hs1.cell x0 (hty xb 59 hQ.out.xty (by decide))
      have c2 := hs1.cell h3 (hty rb 67 h67 (by decide))
      have c3 := hs'.cell x0 (fun e => e.elim (hner xb 59 hQ.out.xty) (hty xb 59 hQ.out.xty (by decide)))
      have c4 := hs'.cell h3 (fun e => e.elim (hner rb 67 h67) (hty rb 67 h67 (by decide)))
      have HQ2 := show Hid _ from hq'
      have HS2 := show Hid _ from hs'
      have HT2 := show Hid _ from hat
      clear hq' hs' hat hown hgrow hs1 hlt))
  all_goals (
    go_wp2
    refine bodyPost_end (results_none rfl _ _ _) rfl ⟨rfl, r, ks', _, HQ2.out, HS2.out.mono (fun b _ e => e.elim (fun e => .inr (.inl (by rw [e]))) (fun e => .inr (.inr e))), .inl rfl, fun g' hg' => by
      simp [Value.ownBlock] at hg'
      subst hg'
      exact HT2.out.elim .inl (fun e => .inr (by rw [e]; exact HA.out.size))⟩)

theorem added_none {W W1 : World} {B xb r t rb : Nat} {T : Nat → Nat} {K : Nat → Bool} {V : Nat → Value} {L : Nat → List Nat} {W' : World} (hs : Same (fun b => b = xb) W W1) (hr : W.heap.size ≤ r) (h : Added W1 B xb (some r) T K V L t rb W') : Added W B xb none T K V L t rb W' := by
  obtain ⟨r', ks, v, h1, h2, h3, h4⟩ := h
  refine ⟨r', ks, v, h1, ?_, ?_, ?_⟩
  · refine ((hs.mono (Y := fun b => b = xb ∨ some r = some b ∨ (V t).ownBlock = some b) (fun _ _ e => .inl e)).trans h2).mono (fun i hi e => ?_)
    rcases e with e | e | e
    · exact .inl e
    · cases e
      omega
    · exact .inr (.inr e)
  · right
    rcases h3 with h3 | h3
    · cases h3
      exact hr
    · exact Nat.le_trans hs.size h3
  · intro g hg
    rcases h4 g hg with h5 | h5
    · exact .inl h5
    · exact .inr (Nat.le_trans hs.size h5)

/-- The queue behind the making of its map. -/
theorem que_made {W : World} {B xb : Nat} {ks : List Nat} {T : Nat → Nat} {K : Nat → Bool} {V : Nat → Value} {L : Nat → List Nat} (h : Que W B xb none ks T K V L) :
    Que ((W.setCell ⟨xb, 0, none⟩ (.map (some W.heap.size))).alloc (.map #[] 0)) B xb (some W.heap.size) ks T K V L ∧ Same (fun b => b = xb) W ((W.setCell ⟨xb, 0, none⟩ (.map (some W.heap.size))).alloc (.map #[] 0)) := by
  have hs : Same (fun b => b = xb) W ((W.setCell ⟨xb, 0, none⟩ (.map (some W.heap.size))).alloc (.map #[] 0)) := (Same.set (X := fun b => b = xb) (Same.refl _ W) (.inl rfl) _).alloc _
  have hxl := h.xty.lt
  obtain rfl := h.mn rfl
  refine ⟨?_, hs⟩
  exact {
    tx := fun t ht => hs.ty (h.tx t ht) (fun e => (h.tx t ht).ne h.xty (by decide) e)
    inj := h.inj
    xty := (h.xty.setCell _ _).alloc _
    x0 := same_new _ _ _ _ (hit _ _ h.x0)
    mp := fun r hr => by
      cases hr
      refine ⟨#[], 0, ?_, rfl, rfl⟩
      have e := heap_alloc_new (W.setCell ⟨xb, 0, none⟩ (.map (some W.heap.size))) (.map #[] 0)
      rwa [show (W.setCell ⟨xb, 0, none⟩ (.map (some W.heap.size))).heap.size = W.heap.size by simp] at e
    mn := fun e => by cases e
    sub := h.sub
    nd := h.nd
    key := h.key
    abs := h.abs
    len := h.len
    own := fun s hs' => hs.owns (h.own s hs') (fun g hg e => (own_ty (h.own s hs') hg).ne h.xty (by decide) e)
    apart := h.apart }

theorem forget_world {P : Program} {c : Code} {Q : Exit → Act → World → Prop} {a : Act} {w : World} (R : World → Prop) (h : R w) (k : ∀ w, R w → c.wp P Q a w) : c.wp P Q a w := k w h

set_option maxRecDepth 8000 in
set_option maxHeartbeats 2000000 in
theorem addOwn_none (W0 : World) (B xb : Nat) (ks : List Nat) (T : Nat → Nat) (K : Nat → Bool) (V : Nat → Value) (L : Nat → List Nat) (t rb : Nat) (ht : t < 3) (hQ0 : Hid (Que W0 B xb none ks T K V L)) (hl : (L t).length ≤ 2000) (hB0 : B ≤ W0.heap.size)
    (h670 : Ty W0 rb 67) (h30 : W0.cell? ⟨rb, 3, none⟩ = some (.pointer (some ⟨T t, 0, none⟩))) :
    Calls Yba.prog 7 #[.pointer (some ⟨xb, 0, none⟩), .pointer (some ⟨rb, 0, none⟩)] W0 fun e W' => e = .returned (.tuple #[]) ∧ Added W0 B xb none T K V L t rb W' := by
  have x00 := hQ0.out.x0
  have hf0 := hQ0.out.xty.frozen 0
  have hxl0 : xb < W0.heap.size := World.block_lt_of_cell? _ _ x00
  obtain ⟨i28, hi28, hz0, hz1, hz2⟩ := info_parts info28
  have hyes := map_yes
  have hmk := make_map
  go_enter Yba.func7, Yba.ntmps7
  go_upto_region 2 with fail
  refine forget_world (fun W => Que W B xb (some W0.heap.size) ks T K V L ∧ Same (fun b => b = xb) W0 W) (que_made hQ0.out) ?fa
  rintro W ⟨hQ', hS'⟩
  have hQ := show Hid _ from hQ'
  have HS := show Hid _ from hS'
  have hxr : rb ≠ xb := h670.ne hQ0.out.xty (by decide)
  have h67 := hS'.ty h670 hxr
  have h3 := hS'.cell h30 hxr
  have hB := Nat.le_trans hB0 hS'.size
  obtain ⟨r, hr⟩ : ∃ r, r = W0.heap.size := ⟨_, rfl⟩
  rw [← hr] at hQ
  have hrl0 : W0.heap.size ≤ r := by omega
  clear hQ' hS' hr x00 hf0 hQ0 h670 h30 hxl0 hyes hmk
  have x0 := hQ.out.x0
  have hxl : xb < W.heap.size := World.block_lt_of_cell? _ _ x0
  have hrl : rb < W.heap.size := World.block_lt_of_cell? _ _ h3
  have hty : ∀ b u, Ty W b u → u ≠ 28 → (V t).ownBlock ≠ some b := fun b u hb hu e => (hb.ne (own_ty (hQ.out.own t ht) e) hu) rfl
  have hner : ∀ b u, Ty W b u → b ≠ r := fun b u hb e => by
    subst e
    obtain ⟨es, clk, e1, _⟩ := hQ.out.mp b rfl
    obtain ⟨cs, hc⟩ := hb
    rw [hc] at e1
    cases e1
  have hA : Same (fun _ => False) W (W.alloc (.cells #[.pointer (some ⟨rb, 0, none⟩)] 28)).drew := ((Same.refl _ W).alloc _).drewN 1
  have hq2 := hQ.out.keepNew hA
  have lk1 : (Instr.lookup 53 (.map (some r)) (.pointer (some ⟨T t, 0, none⟩)) false).run Yba.prog W.drew = .ok (V t) W.drew := (hQ.out.keepNew (drewN_same W 1)).look ht
  have lk2 : (Instr.lookup 53 (.map (some r)) (.pointer (some ⟨T t, 0, none⟩)) false).run Yba.prog (W.alloc (.cells #[.pointer (some ⟨rb, 0, none⟩)] 28)).drew = .ok (V t) (W.alloc (.cells #[.pointer (some ⟨rb, 0, none⟩)] 28)).drew := hq2.look ht
  have HW := show Hid _ from hq2
  have HA := show Hid _ from hA
  have hnw : ∀ j u, [Value.pointer (some ⟨rb, 0, none⟩)][j]? = some u → (W.alloc (.cells #[.pointer (some ⟨rb, 0, none⟩)] 28)).drew.cell? ((⟨W.heap.size, 0, none⟩ : Addr).add j) = some u := cell_one_new W _ 28
  have HN := show Hid _ from hnw
  have hone : ∀ u ∈ [Value.pointer (some ⟨rb, 0, none⟩)], u.oneCell' = true := fun u hu => by
    simp at hu
    subst hu
    rfl
  have HO := show Hid _ from hone
  have hB2 : B ≤ (W.alloc (.cells #[.pointer (some ⟨rb, 0, none⟩)] 28)).drew.heap.size := Nat.le_trans hB HA.out.size
  have HB := show Hid _ from hB2
  clear hq2 hA hnw hone hB2
  go_region_held_law (fun w' => w'.cell? ⟨xb, 0, none⟩ = some (.map (some r)) ∧ w'.cell? ⟨rb, 3, none⟩ = some (.pointer (some ⟨T t, 0, none⟩))) (go_keep)
    ((refine step_append_lies _ rfl (.tmp 29) (.tmp 31) 26 rfl B 28 i28 (.pointer none) 1 8 Yba.underlying26 hi28 hz0 hz1 hz2 rfl (by decide) (V t) (L t).length ((L t).map ptr) (by simp [Act.eval]) (HW.out.own t ht) ⟨W.heap.size, 0, none⟩ 1 1 [.pointer (some ⟨rb, 0, none⟩)] (by simp [Act.eval]) rfl HN.out HO.out (by decide) (by unfold maxLen; omega) (by omega) HB.out _ rfl ?_
      intro g cap w1 hown hgrow hat hlt
      obtain ⟨W2, hup, ks', hq', hs', hs1⟩ := que_step' hQ.out ht HA.out hgrow hown hat
      have c1 := hs1.cell x0 (hty xb 59 hQ.out.xty (by decide))
      have c2 := hs1.cell h3 (hty rb 67 h67 (by decide))
      have c3 := hs'.cell x0 (fun e => e.elim (hner xb 59 hQ.out.xty) (hty xb 59 hQ.out.xty (by decide)))
      have c4 := hs'.cell h3 (fun e => e.elim (hner rb 67 h67) (hty rb 67 h67 (by decide)))
      have HQ2 := show Hid _ from hq'
      have HS2 := show Hid _ from hs'
      have HT2 := show Hid _ from hat
      clear hq' hs' hat hown hgrow hs1 hlt))
  all_goals (
    go_wp2
    refine bodyPost_end (results_none rfl _ _ _) rfl ⟨rfl, added_none HS.out hrl0 ⟨r, ks', _, HQ2.out, HS2.out.mono (fun b _ e => e.elim (fun e => .inr (.inl (by rw [e]))) (fun e => .inr (.inr e))), .inl rfl, fun g' hg' => by
      simp [Value.ownBlock] at hg'
      subst hg'
      exact HT2.out.elim .inl (fun e => .inr (by rw [e]; exact HA.out.size))⟩⟩)

/-- addOwn, whatever the map. -/
theorem addOwn_any (W : World) (B xb : Nat) (mr : Option Nat) (ks : List Nat) (T : Nat → Nat) (K : Nat → Bool) (V : Nat → Value) (L : Nat → List Nat) (t rb : Nat) (ht : t < 3) (hQ : Que W B xb mr ks T K V L) (hl : (L t).length ≤ 2000) (hB : B ≤ W.heap.size)
    (h67 : Ty W rb 67) (h3 : W.cell? ⟨rb, 3, none⟩ = some (.pointer (some ⟨T t, 0, none⟩))) :
    Calls Yba.prog 7 #[.pointer (some ⟨xb, 0, none⟩), .pointer (some ⟨rb, 0, none⟩)] W fun e W' => e = .returned (.tuple #[]) ∧ Added W B xb mr T K V L t rb W' := by
  cases mr with
  | none => exact addOwn_none W B xb ks T K V L t rb ht hQ hl hB h67 h3
  | some r => exact addOwn_some W B xb r ks T K V L t rb ht hQ hl hB h67 h3

end Go.Proofs.Ybulkclvu.Own
