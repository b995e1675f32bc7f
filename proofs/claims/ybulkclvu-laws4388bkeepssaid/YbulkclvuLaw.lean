/- Both laws' memory: the queue, the table of transactions, the model beside it. -/
import Derived.Test.YbulkclvuSame
namespace Go.Proofs.Ybulkclvu.Own
set_option linter.unusedVariables false
open Go.RowKit Go.Proofs.Ybulkclvu.Mem

theorem isAgg49 : ((Yba.prog.info? 49).bind (·.zero)).map (fun v => match v with | .agg _ => true | _ => false) = some true := by kernel_rfl
theorem zero49 : ∃ Z, ∀ w, (zeroValue 49).run Yba.prog w = .ok (.agg Z) w := by
  have h := isAgg49
  cases hi : Yba.prog.info? 49 with
  | none => rw [hi] at h; simp at h
  | some i =>
    rw [hi] at h
    cases hz : i.zero with
    | none => simp [hz] at h
    | some v =>
      cases v with
      | agg Z => exact ⟨Z, fun w => by simp [zeroValue, typeInfo, hi, hz]⟩
      | _ => simp [hz] at h
theorem info26 : (Yba.prog.info? 26).map (fun i => (i.zero, i.size, i.bytes)) = some (some (.slice none 0 0), 1, 24) := by kernel_rfl
theorem make_model (n : Nat) (hn : n ≤ 3) (w : World) :
    (Instr.makeSlice 51 (.int .i64 n) (.int .i64 n)).run Yba.prog w = .ok (.slice (some ⟨w.heap.size, 0, none⟩) n n) (w.alloc (.cells (madeCells #[.slice none 0 0] n) 26)) := by
  obtain ⟨i, hi, hz0, hz1, hz2⟩ := info_parts info26
  have hr := run_make (P := Yba.prog) w 51 26 i (.slice none 0 0) Yba.underlying51 hi hz0 .i64 .i64 n n (by omega) (by omega) (by rw [hz2]; omega) (by omega)
  rw [hr, hz1]
  simp
  rfl

/-- m: how many transactions the script names; M: the model's rows, LM and LV: what the model and the queue hold. -/
structure LS (m : Nat) (w W : World) (xb tb mb : Nat) (mr : Option Nat) (ks : List Nat) (T : Nat → Nat) (K : Nat → Bool) (M V : Nat → Value) (LM LV : Nat → List Nat) : Prop where
  que : Que W w.heap.size xb mr ks T K V LV
  same : Same (fun _ => False) w W
  tty : Ty W tb 23
  tbl : ∀ t, t < m → W.cell? ⟨tb, t, none⟩ = some (.pointer (some ⟨T t, 0, none⟩))
  mty : Ty W mb 26
  mnew : w.heap.size ≤ mb
  xnew : w.heap.size ≤ xb
  rnew : ∀ r, mr = some r → w.heap.size ≤ r
  mcell : ∀ t, t < m → W.cell? ⟨mb, t, none⟩ = some (M t)
  mown : ∀ t, t < 3 → W.ownsRow w.heap.size 28 1 (M t) (LM t).length ((LM t).map ptr)
  apM : ∀ s t, s < 3 → t < 3 → s ≠ t → ∀ g, (M s).ownBlock = some g → (M t).ownBlock ≠ some g
  apV : ∀ s t, s < 3 → t < 3 → ∀ g, (M s).ownBlock = some g → (V t).ownBlock ≠ some g

theorem own_ge {W : World} {B e size n g : Nat} {v : Value} {xs : List Value} (h : W.ownsRow B e size v n xs) (hg : v.ownBlock = some g) : B ≤ g := (h.lt g hg).1

theorem same_drop {X : Nat → Prop} {w a b : World} (h : Same (fun _ => False) w a) (k : Same X a b) (hX : ∀ i, X i → w.heap.size ≤ i) : Same (fun _ => False) w b :=
  ⟨k.os.trans h.os, k.tape.trans h.tape, k.output.trans h.output, Nat.le_trans h.size k.size, fun i hi _ => (k.block i (Nat.lt_of_lt_of_le hi h.size) (fun hx => by have := hX i hx; omega)).trans (h.block i hi id)⟩

theorem LS.keepNew {m : Nat} {w W W' : World} {xb tb mb : Nat} {mr : Option Nat} {ks : List Nat} {T : Nat → Nat} {K : Nat → Bool} {M V : Nat → Value} {LM LV : Nat → List Nat} (h : LS m w W xb tb mb mr ks T K M V LM LV) (hs : Same (fun _ => False) W W') : LS m w W' xb tb mb mr ks T K M V LM LV where
  que := h.que.keepNew hs
  same := h.same.trans hs
  tty := hs.ty h.tty id
  tbl := fun t ht => hs.cell (h.tbl t ht) id
  mty := hs.ty h.mty id
  mnew := h.mnew
  xnew := h.xnew
  rnew := h.rnew
  mcell := fun t ht => hs.cell (h.mcell t ht) id
  mown := fun t ht => hs.owns (h.mown t ht) (fun _ _ => id)
  apM := h.apM
  apV := h.apV

/-- Behind addOwn. -/
theorem ls_added {m : Nat} {w W W' : World} {xb tb mb : Nat} {mr : Option Nat} {ks : List Nat} {T : Nat → Nat} {K : Nat → Bool} {M V : Nat → Value} {LM LV : Nat → List Nat} {t rb : Nat} (ht : t < 3) (h : LS m w W xb tb mb mr ks T K M V LM LV)
    (ha : Added W w.heap.size xb mr T K V LV t rb W') : ∃ r ks' v, LS m w W' xb tb mb (some r) ks' T (upd K t true) M (upd V t v) LM (upd LV t (LV t ++ [rb])) ∧ W.heap.size ≤ W'.heap.size := by
  obtain ⟨r, ks', v, hq, hs, hr, hv⟩ := ha
  have hx : ∀ b u, Ty W b u → u ≠ 59 → u ≠ 28 → ¬ (b = xb ∨ mr = some b ∨ (V t).ownBlock = some b) := fun b u hb h1 h2 e => by
    rcases e with e | e | e
    · exact hb.ne h.que.xty h1 e
    · obtain ⟨es, clk, e1, _⟩ := h.que.mp b e
      obtain ⟨cs, hc⟩ := hb
      rw [hc] at e1
      cases e1
    · exact hb.ne (own_ty (h.que.own t ht) e) h2 rfl
  have hxm : ∀ s, s < 3 → ∀ g, (M s).ownBlock = some g → ¬ (g = xb ∨ mr = some g ∨ (V t).ownBlock = some g) := fun s hs' g hg e => by
    have hty := own_ty (h.mown s hs') hg
    rcases e with e | e | e
    · exact hty.ne h.que.xty (by decide) e
    · obtain ⟨es, clk, e1, _⟩ := h.que.mp g e
      obtain ⟨cs, hc⟩ := hty
      rw [hc] at e1
      cases e1
    · exact h.apV s t hs' ht g hg e
  refine ⟨r, ks', v, ?_, hs.size⟩
  exact {
    que := hq
    same := same_drop h.same hs (fun i e => by
      rcases e with e | e | e
      · rw [e]; exact h.xnew
      · exact h.rnew i e
      · exact own_ge (h.que.own t ht) e)
    tty := hs.ty h.tty (hx _ _ h.tty (by decide) (by decide))
    tbl := fun s hs' => hs.cell (h.tbl s hs') (hx _ _ h.tty (by decide) (by decide))
    mty := hs.ty h.mty (hx _ _ h.mty (by decide) (by decide))
    mnew := h.mnew
    xnew := h.xnew
    rnew := fun r' hr' => by
      cases hr'
      rcases hr with hr | hr
      · exact h.rnew _ hr
      · exact Nat.le_trans h.same.size hr
    mcell := fun s hs' => hs.cell (h.mcell s hs') (hx _ _ h.mty (by decide) (by decide))
    mown := fun s hs' => hs.owns (h.mown s hs') (hxm s hs')
    apM := h.apM
    apV := fun s s' hs' hs'' g hg => by
      by_cases e : s' = t
      · subst e
        rw [upd_same]
        intro hx'
        rcases hv g hx' with h1 | h1
        · exact h.apV s s' hs' hs'' g hg h1
        · have := (own_ty (h.mown s hs') hg).lt
          omega
      · rw [upd_other _ _ e]
        exact h.apV s s' hs' hs'' g hg }

/-- Behind the model's append and its store. -/
theorem ls_model {m : Nat} {w W A w1 : World} {xb tb mb : Nat} {mr : Option Nat} {ks : List Nat} {T : Nat → Nat} {K : Nat → Bool} {M V : Nat → Value} {LM LV : Nat → List Nat} {t rb g cap : Nat} (hm : t < m) (hm3 : m ≤ 3) (h : LS m w W xb tb mb mr ks T K M V LM LV)
    (hA : Same (fun _ => False) W A) (hg : A.grownBy w1 (M t).ownBlock) (hown : w1.ownsRow w.heap.size 28 1 (.slice (some ⟨g, 0, none⟩) ((LM t).length + 1) cap) ((LM t).length + 1) ((LM t).map ptr ++ [.pointer (some ⟨rb, 0, none⟩)]))
    (hat : (M t).ownBlock = some g ∨ g = A.heap.size) :
    Same (fun b => (M t).ownBlock = some b) W w1 ∧ LS m w (w1.setCell ⟨mb, t, none⟩ (.slice (some ⟨g, 0, none⟩) ((LM t).length + 1) cap)) xb tb mb mr ks T K (upd M t (.slice (some ⟨g, 0, none⟩) ((LM t).length + 1) cap)) V (upd LM t (LM t ++ [rb])) LV := by
  have ht : t < 3 := by omega
  have hS1 : Same (fun b => (M t).ownBlock = some b) W w1 := (hA.mono (fun _ _ h => h.elim)).grown hg (fun g hg => .inl hg)
  have hty : ∀ b u, Ty W b u → u ≠ 28 → (M t).ownBlock ≠ some b := fun b u hb hu e => (hb.ne (own_ty (h.mown t ht) e) hu) rfl
  have hmb1 : Ty w1 mb 26 := hS1.ty h.mty (hty _ _ h.mty (by decide))
  have hS2 : Same (fun b => b = mb) w1 (w1.setCell ⟨mb, t, none⟩ (.slice (some ⟨g, 0, none⟩) ((LM t).length + 1) cap)) := Same.set (X := fun b => b = mb) (Same.refl _ w1) (.inl rfl) _
  have hS3 : Same (fun b => b = mb ∨ (M t).ownBlock = some b) W (w1.setCell ⟨mb, t, none⟩ (.slice (some ⟨g, 0, none⟩) ((LM t).length + 1) cap)) := (hS1.mono (fun _ _ h => .inr h)).trans (hS2.mono (fun _ _ h => .inl h))
  have hL : ((LM t ++ [rb]).map ptr) = (LM t).map ptr ++ [.pointer (some ⟨rb, 0, none⟩)] := by simp [ptr]
  have hLl : (LM t ++ [rb]).length = (LM t).length + 1 := by simp
  have hx : ∀ b u, Ty W b u → u ≠ 26 → u ≠ 28 → ¬ (b = mb ∨ (M t).ownBlock = some b) := fun b u hb h1 h2 e => e.elim (hb.ne h.mty h1) (hty b u hb h2)
  have hgt := own_ty hown rfl
  have hnew : ∀ g', Ty W g' 28 → (M t).ownBlock ≠ some g' → g' ≠ g := fun g' hg' hne e => by
    subst e
    rcases hat with hat | hat
    · exact hne hat
    · have := hg'.lt
      have := hA.size
      omega
  have hrow : ∀ r, mr = some r → ¬ (r = mb ∨ (M t).ownBlock = some r) := fun r hr e => by
    obtain ⟨es, clk, e1, _⟩ := h.que.mp r hr
    rcases e with e | e
    · subst e
      obtain ⟨cs, hc⟩ := h.mty
      rw [hc] at e1
      cases e1
    · obtain ⟨cs, hc⟩ := own_ty (h.mown t ht) e
      rw [hc] at e1
      cases e1
  refine ⟨hS1, ?_⟩
  exact {
    que := h.que.keep hS3 (fun s hs => hx _ _ (h.que.tx s hs) (by decide) (by decide)) (hx _ _ h.que.xty (by decide) (by decide)) hrow
      (fun s hs g' hg' e => e.elim (fun e => (own_ty (h.que.own s hs) hg').ne h.mty (by decide) e) (fun e => h.apV t s ht hs g' e hg'))
    same := same_drop h.same hS3 (fun i e => e.elim (fun e => by rw [e]; exact h.mnew) (fun e => own_ge (h.mown t ht) e))
    tty := hS3.ty h.tty (hx _ _ h.tty (by decide) (by decide))
    tbl := fun s hs' => hS3.cell (h.tbl s hs') (hx _ _ h.tty (by decide) (by decide))
    mty := hmb1.setCell _ _
    mnew := h.mnew
    xnew := h.xnew
    rnew := h.rnew
    mcell := fun s hs' => by
      have hc := hS1.cell (h.mcell s hs') (hty _ _ h.mty (by decide))
      by_cases e : s = t
      · subst e
        rw [upd_same]
        exact hit _ _ hc
      · rw [upd_other _ _ e, near _ _ (fun e' => e e'.symm)]
        exact hc
    mown := fun s hs' => by
      by_cases e : s = t
      · subst e
        rw [upd_same, upd_same, hL, hLl]
        exact hS2.owns hown (fun g' hg' e => by
          simp [Value.ownBlock] at hg'
          subst hg'
          exact hgt.ne hmb1 (by decide) e)
      · rw [upd_other _ _ e, upd_other _ _ e]
        exact hS3.owns (h.mown s hs') (fun g' hg' e' => e'.elim (fun e' => (own_ty (h.mown s hs') hg').ne h.mty (by decide) e') (fun e' => h.apM s t hs' ht e g' hg' e'))
    apM := fun s s' hs' hs'' hne g' hg' => by
      by_cases e : s = t
      · subst e
        rw [upd_same] at hg'
        rw [upd_other _ _ (fun e => hne e.symm)]
        intro hx'
        simp [Value.ownBlock] at hg'
        exact hnew g' (own_ty (h.mown s' hs'') hx') (fun e' => h.apM s' s hs'' ht (fun e => hne e.symm) g' hx' e') hg'.symm
      · rw [upd_other _ _ e] at hg'
        by_cases e' : s' = t
        · subst e'
          rw [upd_same]
          intro hx'
          simp [Value.ownBlock] at hx'
          exact hnew g' (own_ty (h.mown s hs') hg') (fun e'' => h.apM s s' hs' ht e g' hg' e'') hx'.symm
        · rw [upd_other _ _ e']
          exact h.apM s s' hs' hs'' hne g' hg'
    apV := fun s s' hs' hs'' g' hg' => by
      by_cases e : s = t
      · subst e
        rw [upd_same] at hg'
        intro hx'
        simp [Value.ownBlock] at hg'
        exact hnew g' (own_ty (h.que.own s' hs'') hx') (fun e' => h.apV s s' ht hs'' g' e' hx') hg'.symm
      · rw [upd_other _ _ e] at hg'
        exact h.apV s s' hs' hs'' g' hg' }

end Go.Proofs.Ybulkclvu.Own
