/- What the checks read behind unlock, by where the item and the lock were kept: no walk in this text. -/
import Derived.Test.YbulkclueCalls
namespace Go.Proofs.Ybulkclue.Join
set_option linter.unusedVariables false
open Go.RowKit Go.Proofs.Ybulkclue.Leaves Go.Proofs.Ybulkclue.Forget Go.Proofs.Ybulkclue.Mem Go.Proofs.Ybulkclue.Steps

/-- The blocks of the call's own. -/
structure Abv (B bb shb no : Nat) (c : Nat → Nat) : Prop where
  b : B ≤ bb
  s : B ≤ shb
  c : ∀ i, i ≤ no → B ≤ c i

structure PostG (B : Nat) (w0 w : World) (ib bb shb chb no p s cp : Nat) (c : Nat → Nat) (ad : Option Addr) : Prop where
  below : Below B w0 w
  size : B ≤ w.heap.size
  a4 : w.cell? ⟨ib, 4, none⟩ = some (.pointer none)
  a5 : w.cell? ⟨ib, 5, none⟩ = some (.slice ad 0 cp)
  tail : TailOk w bb shb chb no s no c (skipped c p) (nth (skipped c p) no)

structure PostH (B : Nat) (w0 w : World) (ib bb shb chb no s cp rb mdb m : Nat) (c rl : Nat → Nat) : Prop where
  below : Below B w0 w
  size : B ≤ w.heap.size
  a4 : w.cell? ⟨ib, 4, none⟩ = some (.pointer none)
  a5 : w.cell? ⟨ib, 5, none⟩ = some (.slice (some ⟨rb, 0, none⟩) m cp)
  rd : ∀ i, i < m → w.cell? ⟨rb, i, none⟩ = some (.pointer (some ⟨rl i, 0, none⟩)) ∧ w.cell? ⟨mdb, i, none⟩ = some (.pointer (some ⟨rl i, 0, none⟩)) ∧ w.cell? ⟨rl i, 3, none⟩ = some (.int .i64 i)
  tail : TailOk w bb shb chb no s (no + 1) c c (nth c (no + 1))

/-- Where the law is let write behind a gone item; behind a held one. -/
def Tg (B : Nat) (V : World) (bb shb ib p s : Nat) (c : Nat → Nat) (b o : Nat) : Prop :=
  (b = ib ∧ (o = 0 ∨ o = 3)) ∨ (b = lkB bb c p ∧ o = lkO s p) ∨ (b = shb ∧ 3 ≤ o) ∨ (B ≤ b ∧ ∃ t, Ty V b t ∧ t ≠ 33 ∧ t ≠ 39 ∧ t ≠ 47)
def Th (B : Nat) (V : World) (shb b o : Nat) : Prop := (b = shb ∧ 4 ≤ o) ∨ (B ≤ b ∧ ∃ t, Ty V b t ∧ t ≠ 33 ∧ t ≠ 39 ∧ t ≠ 47)

section
variable {B : Nat} {w0 V : World} {bb shb ib chb no p s lb cp : Nat} {c : Nat → Nat} {h sc : Int} {si0 sl0 : Nat} {ad : Option Addr}

theorem postG (C : Common V bb shb ib chb no p s c h sc si0 sl0) (A : Abv B bb shb no c) (hB : Below B w0 V) (hBs : B ≤ V.heap.size)
    (i4 : V.cell? ⟨ib, 4, none⟩ = some (.pointer none)) (i5 : V.cell? ⟨ib, 5, none⟩ = some (.slice ad 0 cp)) {W : World} (hU : Un (Tg B V bb shb ib p s c) V W)
    (hlk : W.cell? ⟨lkB bb c p, lkO s p, none⟩ = some (.pointer (nxt c no p))) (h3 : W.cell? ⟨shb, 3, none⟩ = some (.int .i64 (no : Int))) :
    PostG B w0 W ib bb shb chb no p s cp c ad := by
  have hib : ∀ o, o ≠ 0 → o ≠ 3 → W.cell? ⟨ib, o, none⟩ = V.cell? ⟨ib, o, none⟩ := fun o h0 h3 => hU.cell _ _ C.ti.lt fun e => by
    rcases e with ⟨_, e⟩ | ⟨e, _⟩ | ⟨e, _⟩ | ⟨_, t, e, _, _, e2⟩
    · omega
    · exact C.lk_ib e.symm
    · exact C.ti.ne C.tsh (by decide) e
    · exact e.ne C.ti e2 rfl
  refine ⟨hB.trans (hU.below B hBs ?_), Nat.le_trans hBs hU.size, (hib 4 (by decide) (by decide)).trans i4, (hib 5 (by decide) (by decide)).trans i5, C.tail_gone hU ?_ hlk h3⟩
  · intro b o e
    rcases e with ⟨e, _⟩ | ⟨e, _⟩ | ⟨e, _⟩ | ⟨e, _⟩
    · rw [e, ← C.cp]; exact A.c p C.hp
    · rw [e]
      have hp := C.hp
      cases p with
      | zero => exact A.b
      | succ q => exact A.c q (by omega)
    · rw [e]; exact A.s
    · exact e
  · intro b o e
    rcases e with e | e | e | ⟨_, e⟩
    · exact .inl e
    · exact .inr (.inl e)
    · exact .inr (.inr (.inl e))
    · exact .inr (.inr (.inr e))

/-- The first step: the item out of its bucket. -/
theorem G_step (C : Common V bb shb ib chb no p s c h sc si0 sl0) (hL : Lk V lb) :
    let G := goneW V (lkB bb c p) (lkO s p) (nxt c no p) shb ((no : Int) + 1)
    G.cell? ⟨lkB bb c p, lkO s p, none⟩ = some (.pointer (nxt c no p)) ∧ G.cell? ⟨shb, 3, none⟩ = some (.int .i64 (no : Int)) ∧ Un (Tg B V bb shb ib p s c) V G ∧
    (∀ b t o, Ty V b t → t ≠ 33 → t ≠ 39 → t ≠ 47 → G.cell? ⟨b, o, none⟩ = V.cell? ⟨b, o, none⟩) ∧ (∀ o, G.cell? ⟨ib, o, none⟩ = V.cell? ⟨ib, o, none⟩) ∧ (∀ o, o ≠ 3 → G.cell? ⟨shb, o, none⟩ = V.cell? ⟨shb, o, none⟩) ∧
    Sp G shb 4 si0 sl0 0 0 sc false false ∧ Lk G lb := by
  intro G
  have hne : lkB bb c p ≠ shb := C.lk_ne C.tsh (by decide) (by decide)
  obtain ⟨g1, g2, g3, g4⟩ := readGone (V := V) (nx := nxt c no p) (N := (no : Int) + 1) hne (C.lk_cell (Nat.le_refl p)) C.s3
  have hU : Un (Tg B V bb shb ib p s c) V G := (Un.refl _ V).goneW (.inr (.inl ⟨rfl, rfl⟩)) (.inr (.inr (.inl ⟨rfl, by decide⟩)))
  have hoth : ∀ b t o, Ty V b t → t ≠ 33 → t ≠ 39 → t ≠ 47 → G.cell? ⟨b, o, none⟩ = V.cell? ⟨b, o, none⟩ := fun b t o ht h1 h2 h3 =>
    g3 b o (ht.ne C.tsh h2) (.inl fun e => C.lk_ne ht h1 h3 e.symm)
  refine ⟨g1, by rw [g2]; congr 2; congr 1; omega, hU, hoth, fun o => g3 ib o (C.ti.ne C.tsh (by decide)) (.inl fun e => C.lk_ib e.symm), g4, ?_, ?_⟩
  · exact ⟨(g4 4 (by decide)).trans C.s4, (g4 5 (by decide)).trans C.s5, (g4 6 (by decide)).trans C.s6, (g4 7 (by decide)).trans C.s7⟩
  · exact hL.to (hU.ty _ _ hL.ty) (fun o => hoth lb 50 o hL.ty (by decide) (by decide) (by decide))

theorem G_none (C : Common V bb shb ib chb no p s c h sc si0 sl0) (A : Abv B bb shb no c) (hB : Below B w0 V) (hBs : B ≤ V.heap.size) (hL : Lk V lb)
    (i4 : V.cell? ⟨ib, 4, none⟩ = some (.pointer none)) (i5 : V.cell? ⟨ib, 5, none⟩ = some (.slice ad 0 cp)) :
    let G := goneW V (lkB bb c p) (lkO s p) (nxt c no p) shb ((no : Int) + 1)
    LPre G ib lb shb sl0 sc ∧ PostG B w0 G ib bb shb chb no p s cp c ad ∧ Sp G shb 4 si0 sl0 ib lb sc false false ∧ (∀ b o, Ty V b 36 → G.cell? ⟨b, o, none⟩ = V.cell? ⟨b, o, none⟩) ∧ (∀ b t, Ty V b t → Ty G b t) := by
  intro G
  obtain ⟨g1, g2, hU, g3, g4, g5, gs, gl⟩ := G_step (B := B) C hL
  exact ⟨⟨(g4 2).trans C.i2, gl, hU.ty _ _ C.tsh, gs.c1, gs.c3, C.sc0⟩, postG C A hB hBs i4 i5 hU g1 g2, ⟨gs.c0, gs.c1, gs.c2, gs.c3⟩, fun b o ht => g3 b 36 o ht (by decide) (by decide) (by decide), hU.ty⟩

theorem G_shard (C : Common V bb shb ib chb no p s c h sc si0 sl0) (A : Abv B bb shb no c) (hB : Below B w0 V) (hBs : B ≤ V.heap.size) (hL : Lk V lb) (hlB : B ≤ lb)
    (i4 : V.cell? ⟨ib, 4, none⟩ = some (.pointer none)) (i5 : V.cell? ⟨ib, 5, none⟩ = some (.slice ad 0 cp)) :
    let W2 := keptItem (goneW V (lkB bb c p) (lkO s p) (nxt c no p) shb ((no : Int) + 1)) shb 4 ib (some ⟨si0, 0, none⟩) sc
    let W3 := keptLock W2 shb 4 lb (some ⟨sl0, 0, none⟩) sc
    LPre W2 ib lb shb sl0 sc ∧ PostG B w0 W3 ib bb shb chb no p s cp c ad ∧ Sp W3 shb 4 si0 sl0 ib lb sc true true ∧ ItemIn W3 ib si0 ∧ LockIn W3 lb sl0 ∧
    (∀ b o, Ty V b 36 → W2.cell? ⟨b, o, none⟩ = V.cell? ⟨b, o, none⟩) ∧ (∀ b o, Ty V b 36 → W3.cell? ⟨b, o, none⟩ = V.cell? ⟨b, o, none⟩) ∧ (∀ b t, Ty V b t → Ty W2 b t) := by
  intro W2 W3
  obtain ⟨g1, g2, hU, g3, g4, g5, gs, gl⟩ := G_step (B := B) C hL
  obtain ⟨ky, i0⟩ := C.i0
  have i3 := C.links p C.hp
  rw [C.cp] at i3
  have his : ib ≠ shb := C.ti.ne C.tsh (by decide)
  have hil : ib ≠ lb := C.ti.ne hL.ty (by decide)
  have hls : lb ≠ shb := hL.ty.ne C.tsh (by decide)
  obtain ⟨R, Bo⟩ := both gl hls his hil gs ((g4 0).trans i0) ((g4 3).trans i3)
  have hU2 : Un (Tg B V bb shb ib p s c) V W2 := hU.keptItem (.inl ⟨rfl, .inl rfl⟩) (.inl ⟨rfl, .inr rfl⟩) (.inr (.inr (.inl ⟨rfl, by decide⟩))) (.inr (.inr (.inl ⟨rfl, by decide⟩)))
  have tl : ∀ o, Tg B V bb shb ib p s c lb o := fun o => .inr (.inr (.inr ⟨hlB, 50, hL.ty, by decide, by decide, by decide⟩))
  have hU3 : Un (Tg B V bb shb ib p s c) V W3 := hU2.keptLock (tl 0) (tl 1) (tl 2) (tl 3) (tl 4) (.inr (.inr (.inl ⟨rfl, by decide⟩))) (.inr (.inr (.inl ⟨rfl, by decide⟩)))
  refine ⟨⟨(R.item 2 (by decide) (by decide)).trans ((g4 2).trans C.i2), gl.to (hU2.ty _ _ hL.ty) (fun o => R.other lb o hil.symm hls), hU2.ty _ _ C.tsh, R.locks.trans gs.c1, R.nlocks.trans gs.c3, C.sc0⟩,
    postG C A hB hBs i4 i5 hU3 ?_ ?_, Bo.sp, Bo.it, Bo.lk, ?_, ?_, hU2.ty⟩
  · exact (Bo.other _ _ C.lk_ib (C.lk_ne hL.ty (by decide) (by decide)) (C.lk_ne C.tsh (by decide) (by decide))).trans g1
  · exact (Bo.plc 3 (by decide)).trans g2
  · intro b o ht
    exact (R.other b o (ht.ne C.ti (by decide)) (ht.ne C.tsh (by decide))).trans (g3 b 36 o ht (by decide) (by decide) (by decide))
  · intro b o ht
    exact (Bo.other b o (ht.ne C.ti (by decide)) (ht.ne hL.ty (by decide)) (ht.ne C.tsh (by decide))).trans (g3 b 36 o ht (by decide) (by decide) (by decide))

theorem G_keep (C : Common V bb shb ib chb no p s c h sc si0 sl0) (A : Abv B bb shb no c) (hB : Below B w0 V) (hBs : B ≤ V.heap.size) (hL : Lk V lb) (hlB : B ≤ lb)
    (i4 : V.cell? ⟨ib, 4, none⟩ = some (.pointer none)) (i5 : V.cell? ⟨ib, 5, none⟩ = some (.slice ad 0 cp)) {kb ki0 kl0 : Nat} {kc : Int} (kc0 : 0 ≤ kc) (tk : Ty V kb 36) (hkB : B ≤ kb) (ks : Sp V kb 0 ki0 kl0 0 0 kc false false) :
    let W2 := keptItem (goneW V (lkB bb c p) (lkO s p) (nxt c no p) shb ((no : Int) + 1)) kb 0 ib (some ⟨ki0, 0, none⟩) kc
    let W3 := keptLock W2 kb 0 lb (some ⟨kl0, 0, none⟩) kc
    LPre W2 ib lb shb sl0 sc ∧ KPre W2 kb kl0 kc ∧ PostG B w0 W3 ib bb shb chb no p s cp c ad ∧ Sp W3 kb 0 ki0 kl0 ib lb kc true true ∧ Sp W3 shb 4 si0 sl0 ib lb sc false false ∧ ItemIn W3 ib ki0 ∧ LockIn W3 lb kl0 := by
  intro W2 W3
  obtain ⟨g1, g2, hU, g3, g4, g5, gs, gl⟩ := G_step (B := B) C hL
  obtain ⟨ky, i0⟩ := C.i0
  have i3 := C.links p C.hp
  rw [C.cp] at i3
  have his : ib ≠ kb := C.ti.ne tk (by decide)
  have hil : ib ≠ lb := C.ti.ne hL.ty (by decide)
  have hls : lb ≠ kb := hL.ty.ne tk (by decide)
  have hss : shb ≠ kb := C.tsh.ne tk (by decide)
  have hsi : shb ≠ ib := C.tsh.ne C.ti (by decide)
  have hsl : shb ≠ lb := C.tsh.ne hL.ty (by decide)
  have gk : Sp (goneW V (lkB bb c p) (lkO s p) (nxt c no p) shb ((no : Int) + 1)) kb 0 ki0 kl0 0 0 kc false false :=
    ⟨(g3 _ 36 _ tk (by decide) (by decide) (by decide)).trans ks.c0, (g3 _ 36 _ tk (by decide) (by decide) (by decide)).trans ks.c1, (g3 _ 36 _ tk (by decide) (by decide) (by decide)).trans ks.c2, (g3 _ 36 _ tk (by decide) (by decide) (by decide)).trans ks.c3⟩
  obtain ⟨R, Bo⟩ := both gl hls his hil gk ((g4 0).trans i0) ((g4 3).trans i3)
  have tt : ∀ o, Tg B V bb shb ib p s c kb o := fun o => .inr (.inr (.inr ⟨hkB, 36, tk, by decide, by decide, by decide⟩))
  have hU2 : Un (Tg B V bb shb ib p s c) V W2 := hU.keptItem (.inl ⟨rfl, .inl rfl⟩) (.inl ⟨rfl, .inr rfl⟩) (tt _) (tt _)
  have tl : ∀ o, Tg B V bb shb ib p s c lb o := fun o => .inr (.inr (.inr ⟨hlB, 50, hL.ty, by decide, by decide, by decide⟩))
  have hU3 : Un (Tg B V bb shb ib p s c) V W3 := hU2.keptLock (tl 0) (tl 1) (tl 2) (tl 3) (tl 4) (tt _) (tt _)
  refine ⟨⟨(R.item 2 (by decide) (by decide)).trans ((g4 2).trans C.i2), gl.to (hU2.ty _ _ hL.ty) (fun o => R.other lb o hil.symm hls), hU2.ty _ _ C.tsh, (R.other _ _ hsi hss).trans gs.c1, (R.other _ _ hsi hss).trans gs.c3, C.sc0⟩,
    ⟨hU2.ty _ _ tk, R.locks.trans gk.c1, R.nlocks.trans gk.c3, kc0⟩, postG C A hB hBs i4 i5 hU3 ?_ ?_, Bo.sp, ?_, Bo.it, Bo.lk⟩
  · exact (Bo.other _ _ C.lk_ib (C.lk_ne hL.ty (by decide) (by decide)) (C.lk_ne tk (by decide) (by decide))).trans g1
  · exact (Bo.other _ _ hsi hsl hss).trans g2
  · exact ⟨(Bo.other _ _ hsi hsl hss).trans gs.c0, (Bo.other _ _ hsi hsl hss).trans gs.c1, (Bo.other _ _ hsi hsl hss).trans gs.c2, (Bo.other _ _ hsi hsl hss).trans gs.c3⟩

/-! ### The item is still held -/
variable {rb mdb m : Nat} {rl : Nat → Nat}

theorem postH (C : Common V bb shb ib chb no p s c h sc si0 sl0) (A : Abv B bb shb no c) (hB : Below B w0 V) (hBs : B ≤ V.heap.size)
    (i4 : V.cell? ⟨ib, 4, none⟩ = some (.pointer none)) (i5 : V.cell? ⟨ib, 5, none⟩ = some (.slice (some ⟨rb, 0, none⟩) m cp)) {W : World} (hU : Un (Th B V shb) V W)
    (rd : ∀ i, i < m → W.cell? ⟨rb, i, none⟩ = some (.pointer (some ⟨rl i, 0, none⟩)) ∧ W.cell? ⟨mdb, i, none⟩ = some (.pointer (some ⟨rl i, 0, none⟩)) ∧ W.cell? ⟨rl i, 3, none⟩ = some (.int .i64 i)) :
    PostH B w0 W ib bb shb chb no s cp rb mdb m c rl := by
  have hib : ∀ o, W.cell? ⟨ib, o, none⟩ = V.cell? ⟨ib, o, none⟩ := fun o => hU.cell _ _ C.ti.lt fun e => by
    rcases e with ⟨e, _⟩ | ⟨_, t, e, _, _, e2⟩
    · exact C.ti.ne C.tsh (by decide) e
    · exact e.ne C.ti e2 rfl
  refine ⟨hB.trans (hU.below B hBs ?_), Nat.le_trans hBs hU.size, (hib 4).trans i4, (hib 5).trans i5, rd, C.tail_held hU ?_⟩
  · intro b o e
    rcases e with ⟨e, _⟩ | ⟨e, _⟩
    · rw [e]; exact A.s
    · exact e
  · intro b o e
    rcases e with e | ⟨_, e⟩
    · exact .inl e
    · exact .inr e

/-- The readers behind the dropping, as they lie in V. -/
structure Rd (V : World) (rb mdb m lb : Nat) (rl : Nat → Nat) : Prop where
  tr : Ty V rb 34
  tm : Ty V mdb 34
  tl : ∀ i, i < m → Ty V (rl i) 50
  ne : ∀ i, i < m → rl i ≠ lb
  c : ∀ i, i < m → V.cell? ⟨rb, i, none⟩ = some (.pointer (some ⟨rl i, 0, none⟩)) ∧ V.cell? ⟨mdb, i, none⟩ = some (.pointer (some ⟨rl i, 0, none⟩)) ∧ V.cell? ⟨rl i, 3, none⟩ = some (.int .i64 i)

theorem H_none (C : Common V bb shb ib chb no p s c h sc si0 sl0) (A : Abv B bb shb no c) (hB : Below B w0 V) (hBs : B ≤ V.heap.size) (hL : Lk V lb) (hR : Rd V rb mdb m lb rl)
    (i4 : V.cell? ⟨ib, 4, none⟩ = some (.pointer none)) (i5 : V.cell? ⟨ib, 5, none⟩ = some (.slice (some ⟨rb, 0, none⟩) m cp)) :
    LPre V ib lb shb sl0 sc ∧ PostH B w0 V ib bb shb chb no s cp rb mdb m c rl ∧ Sp V shb 4 si0 sl0 ib lb sc false false :=
  ⟨⟨C.i2, hL, C.tsh, C.s5, C.s7, C.sc0⟩, postH C A hB hBs i4 i5 (Un.refl _ V) hR.c, ⟨C.s4, C.s5, C.s6, C.s7⟩⟩

theorem H_shard (C : Common V bb shb ib chb no p s c h sc si0 sl0) (A : Abv B bb shb no c) (hB : Below B w0 V) (hBs : B ≤ V.heap.size) (hL : Lk V lb) (hlB : B ≤ lb) (hR : Rd V rb mdb m lb rl)
    (i4 : V.cell? ⟨ib, 4, none⟩ = some (.pointer none)) (i5 : V.cell? ⟨ib, 5, none⟩ = some (.slice (some ⟨rb, 0, none⟩) m cp)) :
    let W3 := keptLock V shb 4 lb (some ⟨sl0, 0, none⟩) sc
    PostH B w0 W3 ib bb shb chb no s cp rb mdb m c rl ∧ Sp W3 shb 4 si0 sl0 ib lb sc false true ∧ LockIn W3 lb sl0 ∧ (∀ b o, Ty V b 36 → W3.cell? ⟨b, o, none⟩ = V.cell? ⟨b, o, none⟩) := by
  intro W3
  have hls : lb ≠ shb := hL.ty.ne C.tsh (by decide)
  have O := onlyL (V := V) (sb := shb) (so := 4) (i0 := si0) (l0 := sl0) ib hL hls ⟨C.s4, C.s5, C.s6, C.s7⟩
  have tl : ∀ o, Th B V shb lb o := fun o => .inr ⟨hlB, 50, hL.ty, by decide, by decide, by decide⟩
  have hU3 : Un (Th B V shb) V W3 := (Un.refl _ V).keptLock (tl 0) (tl 1) (tl 2) (tl 3) (tl 4) (.inl ⟨rfl, by decide⟩) (.inl ⟨rfl, by decide⟩)
  refine ⟨postH C A hB hBs i4 i5 hU3 ?_, O.sp, O.lk, fun b o ht => O.other b o (ht.ne hL.ty (by decide)) (ht.ne C.tsh (by decide))⟩
  intro i hi
  obtain ⟨r1, r2, r3⟩ := hR.c i hi
  exact ⟨(O.other _ _ (hR.tr.ne hL.ty (by decide)) (hR.tr.ne C.tsh (by decide))).trans r1, (O.other _ _ (hR.tm.ne hL.ty (by decide)) (hR.tm.ne C.tsh (by decide))).trans r2, (O.other _ _ (hR.ne i hi) ((hR.tl i hi).ne C.tsh (by decide))).trans r3⟩

theorem H_keep (C : Common V bb shb ib chb no p s c h sc si0 sl0) (A : Abv B bb shb no c) (hB : Below B w0 V) (hBs : B ≤ V.heap.size) (hL : Lk V lb) (hlB : B ≤ lb) (hR : Rd V rb mdb m lb rl)
    (i4 : V.cell? ⟨ib, 4, none⟩ = some (.pointer none)) (i5 : V.cell? ⟨ib, 5, none⟩ = some (.slice (some ⟨rb, 0, none⟩) m cp)) {kb ki0 kl0 : Nat} {kc : Int} (kc0 : 0 ≤ kc) (tk : Ty V kb 36) (hkB : B ≤ kb) (ks : Sp V kb 0 ki0 kl0 0 0 kc false false) :
    let W3 := keptLock V kb 0 lb (some ⟨kl0, 0, none⟩) kc
    KPre V kb kl0 kc ∧ PostH B w0 W3 ib bb shb chb no s cp rb mdb m c rl ∧ Sp W3 kb 0 ki0 kl0 ib lb kc false true ∧ Sp W3 shb 4 si0 sl0 ib lb sc false false ∧ LockIn W3 lb kl0 := by
  intro W3
  have hls : lb ≠ kb := hL.ty.ne tk (by decide)
  have hss : shb ≠ kb := C.tsh.ne tk (by decide)
  have hsl : shb ≠ lb := C.tsh.ne hL.ty (by decide)
  have O := onlyL (V := V) (sb := kb) (so := 0) (i0 := ki0) (l0 := kl0) ib hL hls ks
  have tl : ∀ o, Th B V shb lb o := fun o => .inr ⟨hlB, 50, hL.ty, by decide, by decide, by decide⟩
  have tt : ∀ o, Th B V shb kb o := fun o => .inr ⟨hkB, 36, tk, by decide, by decide, by decide⟩
  have hU3 : Un (Th B V shb) V W3 := (Un.refl _ V).keptLock (tl 0) (tl 1) (tl 2) (tl 3) (tl 4) (tt _) (tt _)
  refine ⟨⟨tk, ks.c1, ks.c3, kc0⟩, postH C A hB hBs i4 i5 hU3 ?_, O.sp, ⟨(O.other _ _ hsl hss).trans C.s4, (O.other _ _ hsl hss).trans C.s5, (O.other _ _ hsl hss).trans C.s6, (O.other _ _ hsl hss).trans C.s7⟩, O.lk⟩
  intro i hi
  obtain ⟨r1, r2, r3⟩ := hR.c i hi
  exact ⟨(O.other _ _ (hR.tr.ne hL.ty (by decide)) (hR.tr.ne tk (by decide))).trans r1, (O.other _ _ (hR.tm.ne hL.ty (by decide)) (hR.tm.ne tk (by decide))).trans r2, (O.other _ _ (hR.ne i hi) ((hR.tl i hi).ne tk (by decide))).trans r3⟩
end

end Go.Proofs.Ybulkclue.Join
