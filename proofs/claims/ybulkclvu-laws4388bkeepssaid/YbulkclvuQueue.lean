/- The queue index as memory: its map, the rows of requests under each key; what one more request does to it. -/
import Derived.Test.YbulkclvuMaps
import Derived.Deep.AppendLies
namespace Go.Proofs.Ybulkclvu.Own
set_option linter.unusedVariables false
open Go.RowKit Go.Proofs.Ybulkclvu.Mem

def upd {α : Type} (f : Nat → α) (t : Nat) (v : α) : Nat → α := fun s => if s = t then v else f s
theorem upd_same {α : Type} (f : Nat → α) (t : Nat) (v : α) : upd f t v t = v := if_pos rfl
theorem upd_other {α : Type} (f : Nat → α) {t s : Nat} (v : α) (h : s ≠ t) : upd f t v s = f s := if_neg h

/-- W' is W but for the blocks of X and for new ones. -/
structure Same (X : Nat → Prop) (W W' : World) : Prop where
  os : W'.os = W.os
  tape : W'.tape = W.tape
  output : W'.output = W.output
  size : W.heap.size ≤ W'.heap.size
  block : ∀ b, b < W.heap.size → ¬ X b → W'.heap[b]? = W.heap[b]?

theorem Same.refl (X : Nat → Prop) (W : World) : Same X W W := ⟨rfl, rfl, rfl, Nat.le_refl _, fun _ _ _ => rfl⟩
theorem Same.trans {X : Nat → Prop} {a b c : World} (h : Same X a b) (k : Same X b c) : Same X a c :=
  ⟨k.os.trans h.os, k.tape.trans h.tape, k.output.trans h.output, Nat.le_trans h.size k.size, fun i hi hx => (k.block i (Nat.lt_of_lt_of_le hi h.size) hx).trans (h.block i hi hx)⟩
theorem Same.mono {X Y : Nat → Prop} {a b : World} (h : Same X a b) (hXY : ∀ i, i < a.heap.size → X i → Y i) : Same Y a b :=
  ⟨h.os, h.tape, h.output, h.size, fun i hi hy => h.block i hi (fun hx => hy (hXY i hi hx))⟩
theorem Same.alloc {X : Nat → Prop} {a b : World} (h : Same X a b) (o : Obj) : Same X a (b.alloc o) :=
  ⟨h.os, h.tape, h.output, by have := h.size; simp; omega, fun i hi hx => by rw [Below.heap_alloc _ _ _ (Nat.lt_of_lt_of_le hi h.size)]; exact h.block i hi hx⟩
theorem Same.drewN {X : Nat → Prop} {a b : World} (h : Same X a b) (n : Nat) : Same X a (b.drewN n) := ⟨h.os, h.tape, h.output, h.size, h.block⟩
theorem Same.set {X : Nat → Prop} {a b : World} (h : Same X a b) {k o : Nat} (hk : X k ∨ a.heap.size ≤ k) (v : Value) : Same X a (b.setCell ⟨k, o, none⟩ v) :=
  ⟨h.os, h.tape, h.output, by simpa using h.size, fun i hi hx => by
    rw [Below.heap_setCell _ _ _ _ (fun e => by
      have e : i = k := e
      subst e
      rcases hk with hk | hk
      · exact hx hk
      · omega)]
    exact h.block i hi hx⟩
theorem Same.grown {X : Nat → Prop} {a b c : World} {row : Option Nat} (h : Same X a b) (k : b.grownBy c row) (hr : ∀ g, row = some g → X g ∨ a.heap.size ≤ g) : Same X a c :=
  ⟨k.os.trans h.os, k.tape.trans h.tape, k.output.trans h.output, Nat.le_trans h.size k.size, fun i hi hx => by
    rw [k.block i (Nat.lt_of_lt_of_le hi h.size) (fun e => by
      rcases hr i e.symm with h1 | h1
      · exact hx h1
      · omega)]
    exact h.block i hi hx⟩
theorem Same.below {B : Nat} {X : Nat → Prop} {a b : World} (h : Same X a b) (hB : B ≤ a.heap.size) (hX : ∀ i, X i → B ≤ i) : Below B a b :=
  ⟨h.os, h.tape, h.output, h.size, fun i hi => h.block i (by omega) (fun hx => by have := hX i hx; omega)⟩
theorem Same.ty {X : Nat → Prop} {a b : World} (h : Same X a b) {k t : Nat} (hk : Ty a k t) (hx : ¬ X k) : Ty b k t := by
  have hl := hk.lt
  obtain ⟨cs, hc⟩ := hk
  exact ⟨cs, by rw [h.block k hl hx]; exact hc⟩
theorem Same.cell {X : Nat → Prop} {a b : World} (h : Same X a b) {k o : Nat} {v : Value} (hc : a.cell? ⟨k, o, none⟩ = some v) (hx : ¬ X k) : b.cell? ⟨k, o, none⟩ = some v := by
  rw [World.cell?_of_block (w := a) (a := ⟨k, o, none⟩) (h.block k (World.block_lt_of_cell? _ _ hc) hx)]
  exact hc
theorem Same.owns {X : Nat → Prop} {a b : World} (h : Same X a b) {B e size n : Nat} {v : Value} {xs : List Value} (ho : a.ownsRow B e size v n xs) (hx : ∀ g, v.ownBlock = some g → ¬ X g) : b.ownsRow B e size v n xs := by
  refine ⟨ho.1, ?_⟩
  rcases ho.2 with h0 | ⟨g, cap, cur, rfl, hb, hg, h1, h2, h3, h4⟩
  · exact .inl h0
  · exact .inr ⟨g, cap, cur, rfl, hb, by rw [h.block g (Array.getElem?_eq_some_iff.1 hg).1 (hx g rfl)]; exact hg, h1, h2, h3, h4⟩

theorem own_ty {W : World} {B e size n g : Nat} {v : Value} {xs : List Value} (h : W.ownsRow B e size v n xs) (hg : v.ownBlock = some g) : Ty W g e := by
  rcases h.2 with ⟨rfl, _⟩ | ⟨g', cap, cur, rfl, hb, hc, _⟩
  · simp [Value.ownBlock] at hg
  · simp [Value.ownBlock] at hg
    subst hg
    exact ⟨cur, hc⟩

structure Que (W : World) (B xb : Nat) (mr : Option Nat) (ks : List Nat) (T : Nat → Nat) (K : Nat → Bool) (V : Nat → Value) (L : Nat → List Nat) : Prop where
  tx : ∀ t, t < 3 → Ty W (T t) 49
  inj : ∀ s t, s < 3 → t < 3 → T s = T t → s = t
  xty : Ty W xb 59
  x0 : W.cell? ⟨xb, 0, none⟩ = some (.map mr)
  mp : ∀ r, mr = some r → ∃ es clk, W.heap[r]? = some (.map es clk) ∧ es.toList.map (·.key) = ks.map (fun k => ptr (T k)) ∧ es.toList.map (·.val) = ks.map V
  mn : mr = none → ks = []
  sub : ∀ s, s ∈ ks → s < 3
  nd : ks.Nodup
  key : ∀ s, s < 3 → (s ∈ ks ↔ K s = true)
  abs : ∀ s, s < 3 → K s = false → V s = .slice none 0 0
  len : ks.length = (K 0).toNat + (K 1).toNat + (K 2).toNat
  own : ∀ s, s < 3 → W.ownsRow B 28 1 (V s) (L s).length ((L s).map ptr)
  apart : ∀ s t, s < 3 → t < 3 → s ≠ t → ∀ g, (V s).ownBlock = some g → (V t).ownBlock ≠ some g

/-- What is said of the queue holds on where its blocks are as they were. -/
theorem Que.keep {W W' : World} {B xb : Nat} {mr : Option Nat} {ks : List Nat} {T : Nat → Nat} {K : Nat → Bool} {V : Nat → Value} {L : Nat → List Nat} {X : Nat → Prop} (h : Que W B xb mr ks T K V L) (hs : Same X W W')
    (h1 : ∀ t, t < 3 → ¬ X (T t)) (h2 : ¬ X xb) (h3 : ∀ r, mr = some r → ¬ X r) (h4 : ∀ s, s < 3 → ∀ g, (V s).ownBlock = some g → ¬ X g) : Que W' B xb mr ks T K V L where
  tx := fun t ht => hs.ty (h.tx t ht) (h1 t ht)
  inj := h.inj
  xty := hs.ty h.xty h2
  x0 := hs.cell h.x0 h2
  mp := fun r hr => by
    obtain ⟨es, clk, e1, e2⟩ := h.mp r hr
    exact ⟨es, clk, by rw [hs.block r (Array.getElem?_eq_some_iff.1 e1).1 (h3 r hr)]; exact e1, e2⟩
  mn := h.mn
  sub := h.sub
  nd := h.nd
  key := h.key
  abs := h.abs
  len := h.len
  own := fun s hs' => hs.owns (h.own s hs') (h4 s hs')
  apart := h.apart

theorem Que.keepNew {W W' : World} {B xb : Nat} {mr : Option Nat} {ks : List Nat} {T : Nat → Nat} {K : Nat → Bool} {V : Nat → Value} {L : Nat → List Nat} (h : Que W B xb mr ks T K V L) (hs : Same (fun _ => False) W W') : Que W' B xb mr ks T K V L :=
  h.keep hs (fun _ _ => id) id (fun _ _ => id) (fun _ _ _ _ => id)

/-- Looking a key up. -/
theorem Que.look {W : World} {B xb r t : Nat} {ks : List Nat} {T : Nat → Nat} {K : Nat → Bool} {V : Nat → Value} {L : Nat → List Nat} (h : Que W B xb (some r) ks T K V L) (ht : t < 3) :
    (Instr.lookup 53 (.map (some r)) (ptr (T t)) false).run Yba.prog W = .ok (V t) W := by
  obtain ⟨es, clk, e1, e2, e3⟩ := h.mp r rfl
  rw [run_look e1 e2 e3 (fun k hk => h.tx k (h.sub k hk)) (h.tx t ht) (fun k hk e => h.inj t k ht (h.sub k hk) e)]
  by_cases hk : t ∈ ks
  · rw [if_pos hk]
  · rw [if_neg hk, h.abs t ht (by
      cases hK : K t with
      | true => exact absurd ((h.key t ht).2 hK) hk
      | false => rfl)]

/-- The queue behind one more request under key t. -/
theorem que_step {W A w1 : World} {B xb r t rb g cap : Nat} {ks : List Nat} {T : Nat → Nat} {K : Nat → Bool} {V : Nat → Value} {L : Nat → List Nat} (h : Que W B xb (some r) ks T K V L) (ht : t < 3)
    (hA : Same (fun _ => False) W A) (hg : A.grownBy w1 (V t).ownBlock) (hown : w1.ownsRow B 28 1 (.slice (some ⟨g, 0, none⟩) ((L t).length + 1) cap) ((L t).length + 1) ((L t).map ptr ++ [ptr rb]))
    (hat : (V t).ownBlock = some g ∨ g = A.heap.size) :
    ∃ es' clk', (Instr.mapUpdate 53 (.map (some r)) (ptr (T t)) (.slice (some ⟨g, 0, none⟩) ((L t).length + 1) cap)).run Yba.prog w1 = .ok () { w1 with heap := w1.heap.setIfInBounds r (.map es' clk') } ∧
      ∃ ks', Que { w1 with heap := w1.heap.setIfInBounds r (.map es' clk') } B xb (some r) ks' T (upd K t true) (upd V t (.slice (some ⟨g, 0, none⟩) ((L t).length + 1) cap)) (upd L t (L t ++ [rb])) ∧
      Same (fun b => b = r ∨ (V t).ownBlock = some b) W { w1 with heap := w1.heap.setIfInBounds r (.map es' clk') } := by
  have hS1 : Same (fun b => (V t).ownBlock = some b) W w1 := (hA.mono (fun _ _ h => h.elim)).grown hg (fun g hg => .inl hg)
  have hty : ∀ b u, Ty W b u → u ≠ 28 → (V t).ownBlock ≠ some b := fun b u hb hu e => (hb.ne (own_ty (h.own t ht) e) hu) rfl
  obtain ⟨es, clk, e1, e2, e3⟩ := h.mp r rfl
  have hrl : r < W.heap.size := (Array.getElem?_eq_some_iff.1 e1).1
  have hrV : (V t).ownBlock ≠ some r := fun e => by
    obtain ⟨cs, hc⟩ := own_ty (h.own t ht) e
    rw [hc] at e1
    cases e1
  have e1' : w1.heap[r]? = some (.map es clk) := by rw [hS1.block r hrl hrV]; exact e1
  have htx : ∀ s, s < 3 → Ty w1 (T s) 49 := fun s hs => hS1.ty (h.tx s hs) (hty _ _ (h.tx s hs) (by decide))
  obtain ⟨es', clk', hr, k1, k2⟩ := run_update e1' e2 e3 (fun k hk => htx k (h.sub k hk)) (htx t ht) (fun k hk e => h.inj t k ht (h.sub k hk) e) h.nd (.slice (some ⟨g, 0, none⟩) ((L t).length + 1) cap)
  have hS2 : Same (fun b => b = r) w1 { w1 with heap := w1.heap.setIfInBounds r (.map es' clk') } :=
    ⟨rfl, rfl, rfl, by simp, fun b _ hb => by simp only; rw [Array.getElem?_setIfInBounds, if_neg (fun e => hb e.symm)]⟩
  have hS3 : Same (fun b => b = r ∨ (V t).ownBlock = some b) W { w1 with heap := w1.heap.setIfInBounds r (.map es' clk') } :=
    (hS1.mono (fun _ _ h => .inr h)).trans (hS2.mono (fun _ _ h => .inl h))
  have hgw : w1.heap.size ≤ w1.heap.size := Nat.le_refl _
  have hneR : ∀ b u, Ty W b u → b ≠ r := fun b u hb e => by
    subst e
    obtain ⟨cs, hc⟩ := hb
    rw [hc] at e1
    cases e1
  have hgr : g ≠ r := fun e => by
    subst e
    obtain ⟨cs, hc⟩ := own_ty hown rfl
    rw [hc] at e1'
    cases e1'
  have hmem : ∀ s, s ∈ (if t ∈ ks then ks else ks ++ [t]) ↔ s ∈ ks ∨ s = t := fun s => by
    by_cases hk : t ∈ ks
    · rw [if_pos hk]
      exact ⟨.inl, fun h => h.elim id (fun e => e ▸ hk)⟩
    · rw [if_neg hk]
      simp
  have hL : ((L t ++ [rb]).map ptr) = (L t).map ptr ++ [ptr rb] := by simp
  have hLl : (L t ++ [rb]).length = (L t).length + 1 := by simp
  refine ⟨es', clk', hr, (if t ∈ ks then ks else ks ++ [t]), ?_, hS3⟩
  constructor
  case tx => exact fun s hs => hS3.ty (h.tx s hs) (fun e => e.elim (hneR _ _ (h.tx s hs)) (hty _ _ (h.tx s hs) (by decide)))
  case inj => exact h.inj
  case xty => exact hS3.ty h.xty (fun e => e.elim (hneR _ _ h.xty) (hty _ _ h.xty (by decide)))
  case x0 => exact hS3.cell h.x0 (fun e => e.elim (hneR _ _ h.xty) (hty _ _ h.xty (by decide)))
  case mp =>
    intro r' hr'
    cases hr'
    refine ⟨es', clk', ?_, k1, k2⟩
    simp only
    rw [Array.getElem?_setIfInBounds, if_pos rfl, if_pos (Array.getElem?_eq_some_iff.1 e1').1]
  case mn => intro e; cases e
  case sub => exact fun s hs => ((hmem s).1 hs).elim (h.sub s) (fun e => e ▸ ht)
  case nd =>
    by_cases hk : t ∈ ks
    · rw [if_pos hk]; exact h.nd
    · rw [if_neg hk]
      exact List.nodup_append.2 ⟨h.nd, by simp, fun a ha b hb e => by
        simp at hb
        subst hb
        subst e
        exact hk ha⟩
  case key =>
    intro s hs
    rw [hmem s]
    by_cases e : s = t
    · subst e
      rw [upd_same]
      simp
    · rw [upd_other _ _ e, ← h.key s hs]
      simp [e]
  case abs =>
    intro s hs hK
    by_cases e : s = t
    · subst e
      rw [upd_same] at hK
      cases hK
    · rw [upd_other _ _ e] at hK ⊢
      exact h.abs s hs hK
  case len =>
    have hl := h.len
    by_cases hk : t ∈ ks
    · rw [if_pos hk, hl]
      have hKt := (h.key t ht).1 hk
      have e : ∀ s, upd K t true s = K s := fun s => by
        by_cases e : s = t
        · subst e; rw [upd_same, hKt]
        · exact upd_other _ _ e
      rw [e, e, e]
    · rw [if_neg hk, List.length_append, hl]
      have hKt : K t = false := by
        cases hK : K t with
        | true => exact absurd ((h.key t ht).2 hK) hk
        | false => rfl
      rcases (show t = 0 ∨ t = 1 ∨ t = 2 by omega) with e | e | e
      · subst e; rw [upd_same, upd_other _ _ (by decide), upd_other _ _ (by decide), hKt]; simp; omega
      · subst e; rw [upd_same, upd_other _ _ (by decide), upd_other _ _ (by decide), hKt]; simp; omega
      · subst e; rw [upd_same, upd_other _ _ (by decide), upd_other _ _ (by decide), hKt]; simp
  case own =>
    intro s hs
    by_cases e : s = t
    · subst e
      rw [upd_same, upd_same, hL, hLl]
      exact hS2.owns hown (fun g' hg' e => by
        simp [Value.ownBlock] at hg'
        subst hg'
        exact hgr e)
    · rw [upd_other _ _ e, upd_other _ _ e]
      refine hS3.owns (h.own s hs) (fun g' hg' hx => ?_)
      rcases hx with hx | hx
      · exact hneR _ _ (own_ty (h.own s hs) hg') hx
      · exact h.apart s t hs ht e g' hg' hx
  case apart =>
    have hnew : ∀ s, s < 3 → s ≠ t → ∀ g', (V s).ownBlock = some g' → g' ≠ g := fun s hs hst g' hg' e => by
      subst e
      rcases hat with hat | hat
      · exact h.apart s t hs ht hst _ hg' hat
      · have := (own_ty (h.own s hs) hg').lt
        have := hA.size
        omega
    intro s s' hs hs' hne g' hg'
    by_cases e : s = t
    · subst e
      rw [upd_same] at hg'
      rw [upd_other _ _ (fun e => hne e.symm)]
      intro hx
      simp [Value.ownBlock] at hg'
      exact hnew s' hs' (fun e => hne e.symm) g' hx hg'.symm
    · rw [upd_other _ _ e] at hg'
      by_cases e' : s' = t
      · subst e'
        rw [upd_same]
        intro hx
        simp [Value.ownBlock] at hx
        exact hnew s hs e g' hg' hx.symm
      · rw [upd_other _ _ e']
        exact h.apart s s' hs hs' hne g' hg'

end Go.Proofs.Ybulkclvu.Own
