/- The state of memory at the call of unlock, and what the checks read behind it: no walk in this text. -/
import Derived.Test.YbulkclueSteps
namespace Go.Proofs.Ybulkclue.Join
open Go.RowKit Go.Proofs.Ybulkclue.Leaves Go.Proofs.Ybulkclue.Forget Go.Proofs.Ybulkclue.Mem Go.Proofs.Ybulkclue.Steps

/-- Where the link to the i-th item of the bucket lies. -/
def lkB (bb : Nat) (c : Nat → Nat) : Nat → Nat
  | 0 => bb
  | i + 1 => c i
def lkO (s : Nat) : Nat → Nat
  | 0 => s
  | _ + 1 => 3
/-- What the i-th item's own link holds, of no + 1 items. -/
def nxt (c : Nat → Nat) (no i : Nat) : Option Addr := if i < no then some ⟨c (i + 1), 0, none⟩ else none
/-- The chain without its p-th item. -/
def skipped (c : Nat → Nat) (p i : Nat) : Nat := if i < p then c i else c (i + 1)
/-- The i-th of n items, or nil. -/
def nth (d : Nat → Nat) (n i : Nat) : Option Addr := if i < n then some ⟨d i, 0, none⟩ else none

structure Common (w : World) (bb shb ib chb no p s : Nat) (c : Nat → Nat) (h sc : Int) (si0 sl0 : Nat) : Prop where
  hno : no ≤ 3
  hp : p ≤ no
  hs : s = slotOf h
  h0 : 0 ≤ h
  h1 : h ≤ 18446744073709551615
  sc0 : 0 ≤ sc
  sc1 : sc ≤ 1029
  cp : c p = ib
  cinj : ∀ i j, i ≤ no → j ≤ no → c i = c j → i = j
  tb : Ty w bb 33
  tsh : Ty w shb 39
  tc : ∀ i, i ≤ no → Ty w (c i) 47
  tch : Ty w chb 33
  hbc : bb ≠ chb
  s2 : w.cell? ⟨shb, 2, none⟩ = some (.slice (some ⟨bb, 0, none⟩) 8 8)
  s3 : w.cell? ⟨shb, 3, none⟩ = some (.int .i64 ((no : Int) + 1))
  s4 : w.cell? ⟨shb, 4, none⟩ = some (.pointer (some ⟨si0, 0, none⟩))
  s5 : w.cell? ⟨shb, 5, none⟩ = some (.pointer (some ⟨sl0, 0, none⟩))
  s6 : w.cell? ⟨shb, 6, none⟩ = some (.int .i32 sc)
  s7 : w.cell? ⟨shb, 7, none⟩ = some (.int .i32 sc)
  bucket : ∀ j, j < 8 → w.cell? ⟨bb, j, none⟩ = some (.pointer (if j = s then some ⟨c 0, 0, none⟩ else none))
  links : ∀ i, i ≤ no → w.cell? ⟨c i, 3, none⟩ = some (.pointer (nxt c no i))
  chain : ∀ i, i ≤ no → w.cell? ⟨chb, i, none⟩ = some (.pointer (some ⟨c i, 0, none⟩))
  i0 : ∃ k, w.cell? ⟨ib, 0, none⟩ = some (.string k)
  i1 : w.cell? ⟨ib, 1, none⟩ = some (.int .u64 h)
  i2 : w.cell? ⟨ib, 2, none⟩ = some (.pointer (some ⟨shb, 0, none⟩))
  i7 : w.cell? ⟨ib, 7, none⟩ = some (.pointer none)

section
variable {w V : World} {bb shb ib chb no p s : Nat} {c : Nat → Nat} {h sc : Int} {si0 sl0 : Nat}

theorem Common.ti (C : Common w bb shb ib chb no p s c h sc si0 sl0) : Ty w ib 47 := C.cp ▸ C.tc p C.hp
theorem Common.hs8 (C : Common w bb shb ib chb no p s c h sc si0 sl0) : s < 8 := by rw [C.hs]; exact slotOf_lt h
theorem Common.cne (C : Common w bb shb ib chb no p s c h sc si0 sl0) {i : Nat} (hi : i ≤ no) (hip : i ≠ p) : c i ≠ ib := fun e => hip (C.cinj i p hi C.hp (e.trans C.cp.symm))

/-- The state lives on where only the writer, the readers and blocks of other types are written. -/
theorem Common.keep (C : Common w bb shb ib chb no p s c h sc si0 sl0) {T : Nat → Nat → Prop} (hU : Un T w V)
    (hT : ∀ b o, T b o → (b = ib ∧ (o = 4 ∨ o = 5)) ∨ ∃ t, Ty w b t ∧ t ≠ 33 ∧ t ≠ 39 ∧ t ≠ 47) : Common V bb shb ib chb no p s c h sc si0 sl0 := by
  have k33 : ∀ b o, Ty w b 33 → V.cell? ⟨b, o, none⟩ = w.cell? ⟨b, o, none⟩ := fun b o ht => hU.cell b o ht.lt fun e => by
    rcases hT b o e with ⟨e1, _⟩ | ⟨t, h1, h2, _⟩
    · exact ht.ne C.ti (by decide) e1
    · exact h1.ne ht h2 rfl
  have k39 : ∀ b o, Ty w b 39 → V.cell? ⟨b, o, none⟩ = w.cell? ⟨b, o, none⟩ := fun b o ht => hU.cell b o ht.lt fun e => by
    rcases hT b o e with ⟨e1, _⟩ | ⟨t, h1, _, h2, _⟩
    · exact ht.ne C.ti (by decide) e1
    · exact h1.ne ht h2 rfl
  have k47 : ∀ b o, Ty w b 47 → o ≠ 4 → o ≠ 5 → V.cell? ⟨b, o, none⟩ = w.cell? ⟨b, o, none⟩ := fun b o ht h4 h5 => hU.cell b o ht.lt fun e => by
    rcases hT b o e with ⟨_, e1⟩ | ⟨t, h1, _, _, h2⟩
    · omega
    · exact h1.ne ht h2 rfl
  obtain ⟨k0, hk0⟩ := C.i0
  exact { hno := C.hno, hp := C.hp, hs := C.hs, h0 := C.h0, h1 := C.h1, sc0 := C.sc0, sc1 := C.sc1, cp := C.cp, cinj := C.cinj,
          tb := hU.ty _ _ C.tb, tsh := hU.ty _ _ C.tsh, tc := fun i hi => hU.ty _ _ (C.tc i hi), tch := hU.ty _ _ C.tch, hbc := C.hbc,
          s2 := (k39 _ _ C.tsh).trans C.s2, s3 := (k39 _ _ C.tsh).trans C.s3, s4 := (k39 _ _ C.tsh).trans C.s4, s5 := (k39 _ _ C.tsh).trans C.s5, s6 := (k39 _ _ C.tsh).trans C.s6, s7 := (k39 _ _ C.tsh).trans C.s7,
          bucket := fun j hj => (k33 _ _ C.tb).trans (C.bucket j hj), links := fun i hi => (k47 _ _ (C.tc i hi) (by decide) (by decide)).trans (C.links i hi),
          chain := fun i hi => (k33 _ _ C.tch).trans (C.chain i hi), i0 := ⟨k0, (k47 _ _ C.ti (by decide) (by decide)).trans hk0⟩, i1 := (k47 _ _ C.ti (by decide) (by decide)).trans C.i1,
          i2 := (k47 _ _ C.ti (by decide) (by decide)).trans C.i2, i7 := (k47 _ _ C.ti (by decide) (by decide)).trans C.i7 }

/-- The link to the item. -/
theorem Common.lkTy (C : Common w bb shb ib chb no p s c h sc si0 sl0) : Ty w (lkB bb c p) 33 ∨ Ty w (lkB bb c p) 47 := by
  have hp := C.hp
  cases p with
  | zero => exact .inl C.tb
  | succ i => exact .inr (C.tc i (by omega))
theorem Common.lk_ib (C : Common w bb shb ib chb no p s c h sc si0 sl0) : lkB bb c p ≠ ib := by
  have C' := C
  have hp := C.hp
  cases p with
  | zero => exact C.tb.ne C.ti (by decide)
  | succ i => exact C'.cne (by omega) (by omega)
theorem Common.lk_frozen (C : Common w bb shb ib chb no p s c h sc si0 sl0) (o : Nat) : w.frozen? ⟨lkB bb c p, o, none⟩ = false := by
  rcases C.lkTy with h | h <;> exact h.frozen o
theorem Common.lk_ne (C : Common w bb shb ib chb no p s c h sc si0 sl0) {b t : Nat} (hb : Ty w b t) (h1 : t ≠ 33) (h2 : t ≠ 47) : lkB bb c p ≠ b := by
  rcases C.lkTy with h | h
  · exact h.ne hb h1.symm
  · exact h.ne hb h2.symm
theorem Common.lk_cell (C : Common w bb shb ib chb no p s c h sc si0 sl0) {i : Nat} (hi : i ≤ p) : w.cell? ⟨lkB bb c i, lkO s i, none⟩ = some (.pointer (some ⟨c i, 0, none⟩)) := by
  have hp := C.hp
  cases i with
  | zero => exact (C.bucket s C.hs8).trans (by rw [if_pos rfl])
  | succ i => exact (C.links i (by omega)).trans (by unfold nxt; rw [if_pos (by omega)])

structure TailOk (w : World) (bb shb chb no s n' : Nat) (c d : Nat → Nat) (nx : Nat → Option Addr) : Prop where
  tch : Ty w chb 33
  hch : ∀ i, i ≤ no → w.cell? ⟨chb, i, none⟩ = some (.pointer (some ⟨c i, 0, none⟩))
  hrow : ∀ i, i ≤ no → IsRow w (c i)
  s2 : w.cell? ⟨shb, 2, none⟩ = some (.slice (some ⟨bb, 0, none⟩) 8 8)
  s3 : w.cell? ⟨shb, 3, none⟩ = some (.int .i64 n')
  hb : w.cell? ⟨bb, s, none⟩ = some (.pointer (nx 0))
  hlinks : ∀ i, i < n' → w.cell? ⟨d i, 3, none⟩ = some (.pointer (nx (i + 1)))
  hz : ∀ j, j < 8 → j ≠ s → w.cell? ⟨bb, j, none⟩ = some (.pointer none)

/-- The item has left the bucket. -/
theorem Common.tail_gone (C : Common w bb shb ib chb no p s c h sc si0 sl0) {T : Nat → Nat → Prop} (hU : Un T w V)
    (hT : ∀ b o, T b o → (b = ib ∧ (o = 0 ∨ o = 3)) ∨ (b = lkB bb c p ∧ o = lkO s p) ∨ (b = shb ∧ 3 ≤ o) ∨ ∃ t, Ty w b t ∧ t ≠ 33 ∧ t ≠ 39 ∧ t ≠ 47)
    (hlk : V.cell? ⟨lkB bb c p, lkO s p, none⟩ = some (.pointer (nxt c no p))) (h3 : V.cell? ⟨shb, 3, none⟩ = some (.int .i64 (no : Int))) :
    TailOk V bb shb chb no s no c (skipped c p) (nth (skipped c p) no) := by
  have hp := C.hp
  have hno := C.hno
  -- the cells that are as they were
  have k33 : ∀ b o, Ty w b 33 → (b ≠ lkB bb c p ∨ o ≠ lkO s p) → V.cell? ⟨b, o, none⟩ = w.cell? ⟨b, o, none⟩ := fun b o ht hn => hU.cell b o ht.lt fun e => by
    rcases hT b o e with ⟨e1, _⟩ | ⟨e1, e2⟩ | ⟨e1, _⟩ | ⟨t, h1, h2, _⟩
    · exact ht.ne C.ti (by decide) e1
    · omega
    · exact ht.ne C.tsh (by decide) e1
    · exact h1.ne ht h2 rfl
  have k47 : ∀ i, i ≤ no → i ≠ p → c i ≠ lkB bb c p → V.cell? ⟨c i, 3, none⟩ = w.cell? ⟨c i, 3, none⟩ := fun i hi hip hn => hU.cell _ _ (C.tc i hi).lt fun e => by
    rcases hT _ _ e with ⟨e1, _⟩ | ⟨e1, e2⟩ | ⟨e1, _⟩ | ⟨t, h1, _, _, h2⟩
    · exact C.cne hi hip e1
    · exact hn e1
    · exact (C.tc i hi).ne C.tsh (by decide) e1
    · exact h1.ne (C.tc i hi) h2 rfl
  have clk : ∀ i, i ≤ no → i + 1 ≠ p → c i ≠ lkB bb c p := fun i hi hip e => by
    cases p with
    | zero => exact (C.tc i hi).ne C.tb (by decide) e
    | succ q => exact hip (by rw [C.cinj i q hi (by omega) e])
  have chlk : chb ≠ lkB bb c p := by
    cases p with
    | zero => exact C.hbc.symm
    | succ q => exact C.tch.ne (C.tc q (by omega)) (by decide)
  refine ⟨hU.ty _ _ C.tch, fun i hi => (k33 _ _ C.tch (.inl chlk)).trans (C.chain i hi), fun i hi => ?_, ?_, h3, ?_, ?_, ?_⟩
  · obtain ⟨cs, hcs⟩ := hU.ty _ _ (C.tc i hi)
    exact ⟨cs, 47, hcs⟩
  · refine (hU.cell _ _ C.tsh.lt fun e => ?_).trans C.s2
    rcases hT _ _ e with ⟨e1, _⟩ | ⟨e1, e2⟩ | ⟨_, e2⟩ | ⟨t, h1, _, h2, _⟩
    · exact C.tsh.ne C.ti (by decide) e1
    · rcases C.lkTy with ht | ht
      · exact C.tsh.ne ht (by decide) e1
      · exact C.tsh.ne ht (by decide) e1
    · omega
    · exact h1.ne C.tsh h2 rfl
  · by_cases hp0 : p = 0
    · subst hp0
      refine hlk.trans ?_
      unfold nxt nth skipped
      simp
    · have hne : bb ≠ lkB bb c p := by
        cases p with
        | zero => exact absurd rfl hp0
        | succ q => exact C.tb.ne (C.tc q (by omega)) (by decide)
      refine (k33 _ _ C.tb (.inl hne)).trans ((C.bucket s C.hs8).trans ?_)
      unfold nth skipped
      rw [if_pos rfl, if_pos (show 0 < no by omega), if_pos (show 0 < p by omega)]
  · intro i hi
    unfold skipped nth
    by_cases hip : i < p
    · rw [if_pos hip]
      by_cases hi1 : i + 1 = p
      · subst hi1
        refine hlk.trans ?_
        unfold nxt
        dsimp only
        rw [if_neg (show ¬ i + 1 < i + 1 by omega)]
      · refine (k47 i (by omega) (by omega) (clk i (by omega) hi1)).trans ((C.links i (by omega)).trans ?_)
        unfold nxt
        dsimp only
        rw [if_pos (show i < no by omega), if_pos (show i + 1 < no by omega), if_pos (show i + 1 < p by omega)]
    · rw [if_neg hip]
      refine (k47 (i + 1) (by omega) (by omega) (clk (i + 1) (by omega) (by omega))).trans ((C.links (i + 1) (by omega)).trans ?_)
      unfold nxt
      dsimp only
      rw [if_neg (show ¬ i + 1 < p by omega)]
  · intro j hj hjs
    refine (k33 _ _ C.tb ?_).trans ((C.bucket j hj).trans (by rw [if_neg hjs]))
    cases p with
    | zero => exact .inr hjs
    | succ q => exact .inl (C.tb.ne (C.tc q (by omega)) (by decide))

/-- The item stays in the bucket. -/
theorem Common.tail_held (C : Common w bb shb ib chb no p s c h sc si0 sl0) {T : Nat → Nat → Prop} (hU : Un T w V)
    (hT : ∀ b o, T b o → (b = shb ∧ 4 ≤ o) ∨ ∃ t, Ty w b t ∧ t ≠ 33 ∧ t ≠ 39 ∧ t ≠ 47) :
    TailOk V bb shb chb no s (no + 1) c c (nth c (no + 1)) := by
  have k33 : ∀ b o, Ty w b 33 → V.cell? ⟨b, o, none⟩ = w.cell? ⟨b, o, none⟩ := fun b o ht => hU.cell b o ht.lt fun e => by
    rcases hT b o e with ⟨e1, _⟩ | ⟨t, h1, h2, _⟩
    · exact ht.ne C.tsh (by decide) e1
    · exact h1.ne ht h2 rfl
  have k47 : ∀ b o, Ty w b 47 → V.cell? ⟨b, o, none⟩ = w.cell? ⟨b, o, none⟩ := fun b o ht => hU.cell b o ht.lt fun e => by
    rcases hT b o e with ⟨e1, _⟩ | ⟨t, h1, _, _, h2⟩
    · exact ht.ne C.tsh (by decide) e1
    · exact h1.ne ht h2 rfl
  have k39 : ∀ o, o < 4 → V.cell? ⟨shb, o, none⟩ = w.cell? ⟨shb, o, none⟩ := fun o ho => hU.cell _ o C.tsh.lt fun e => by
    rcases hT _ o e with ⟨_, e1⟩ | ⟨t, h1, _, h2, _⟩
    · omega
    · exact h1.ne C.tsh h2 rfl
  refine ⟨hU.ty _ _ C.tch, fun i hi => (k33 _ _ C.tch).trans (C.chain i hi), fun i hi => ?_, (k39 _ (by decide)).trans C.s2, (k39 _ (by decide)).trans (C.s3.trans (by simp)), ?_, ?_, ?_⟩
  · obtain ⟨cs, hcs⟩ := hU.ty _ _ (C.tc i hi)
    exact ⟨cs, 47, hcs⟩
  · refine (k33 _ _ C.tb).trans ((C.bucket s C.hs8).trans ?_)
    unfold nth
    rw [if_pos rfl, if_pos (by omega)]
  · intro i hi
    refine (k47 _ _ (C.tc i (by omega))).trans ((C.links i (by omega)).trans ?_)
    unfold nxt nth
    by_cases hin : i < no
    · rw [if_pos hin, if_pos (by omega)]
    · rw [if_neg hin, if_neg (by omega)]
  · intro j hj hjs
    exact (k33 _ _ C.tb).trans ((C.bucket j hj).trans (by rw [if_neg hjs]))
end

end Go.Proofs.Ybulkclue.Join
