/- unlock at the law's own state: what the checks find behind it. -/
import Derived.Test.YbulkcluePost
namespace Go.Proofs.Ybulkclue.Join
set_option linter.unusedVariables false
open Go.RowKit Go.Proofs.Ybulkclue.Leaves Go.Proofs.Ybulkclue.Forget Go.Proofs.Ybulkclue.Mem Go.Proofs.Ybulkclue.Steps

theorem Same.drewN (w : World) (n : Nat) : Same w (w.drewN n) := fun _ _ _ h => h
theorem below_drewN' {B : Nat} {w0 w : World} (h : Below B w0 w) (n : Nat) : Below B w0 (w.drewN n) := ⟨h.os, h.tape, h.output, h.size, h.block⟩
theorem TailOk.drewN {w : World} {bb shb chb no s n' : Nat} {c d : Nat → Nat} {nx : Nat → Option Addr} (h : TailOk w bb shb chb no s n' c d nx) (n : Nat) : TailOk (w.drewN n) bb shb chb no s n' c d nx :=
  ⟨h.tch, h.hch, h.hrow, h.s2, h.s3, h.hb, h.hlinks, h.hz⟩
theorem PostG.drewN {B : Nat} {w0 w : World} {ib bb shb chb no p s cp : Nat} {c : Nat → Nat} {ad : Option Addr} (h : PostG B w0 w ib bb shb chb no p s cp c ad) (n : Nat) : PostG B w0 (w.drewN n) ib bb shb chb no p s cp c ad :=
  ⟨below_drewN' h.below n, h.size, h.a4, h.a5, h.tail.drewN n⟩
theorem PostH.drewN {B : Nat} {w0 w : World} {ib bb shb chb no s cp rb mdb m : Nat} {c rl : Nat → Nat} (h : PostH B w0 w ib bb shb chb no s cp rb mdb m c rl) (n : Nat) : PostH B w0 (w.drewN n) ib bb shb chb no s cp rb mdb m c rl :=
  ⟨below_drewN' h.below n, h.size, h.a4, h.a5, h.rd, h.tail.drewN n⟩

structure FinNil (w : World) (shb ib lb si0 sl0 : Nat) (sc : Int) (g : Bool) : Prop where
  sp : Sp w shb 4 si0 sl0 ib lb sc (g && decide (sc < 1024)) (decide (sc < 1024))
  it : g = true → sc < 1024 → ItemIn w ib si0
  lk : sc < 1024 → LockIn w lb sl0
structure FinFull (w : World) (shb ib lb si0 sl0 kb ki0 kl0 : Nat) (sc kc : Int) (g : Bool) : Prop where
  kp : Sp w kb 0 ki0 kl0 ib lb kc false false
  fn : FinNil w shb ib lb si0 sl0 sc g
structure FinKeep (w : World) (shb ib lb si0 sl0 kb ki0 kl0 : Nat) (sc kc : Int) (g : Bool) : Prop where
  kp : Sp w kb 0 ki0 kl0 ib lb kc g true
  sp : Sp w shb 4 si0 sl0 ib lb sc false false
  it : g = true → ItemIn w ib ki0
  lk : LockIn w lb kl0
theorem FinNil.same {w w' : World} {shb ib lb si0 sl0 : Nat} {sc : Int} {g : Bool} (h : FinNil w shb ib lb si0 sl0 sc g) (k : Same w w') : FinNil w' shb ib lb si0 sl0 sc g := ⟨h.sp.same k, fun a b => (h.it a b).same k, fun a => (h.lk a).same k⟩
theorem FinFull.same {w w' : World} {shb ib lb si0 sl0 kb ki0 kl0 : Nat} {sc kc : Int} {g : Bool} (h : FinFull w shb ib lb si0 sl0 kb ki0 kl0 sc kc g) (k : Same w w') : FinFull w' shb ib lb si0 sl0 kb ki0 kl0 sc kc g := ⟨h.kp.same k, h.fn.same k⟩
theorem FinKeep.same {w w' : World} {shb ib lb si0 sl0 kb ki0 kl0 : Nat} {sc kc : Int} {g : Bool} (h : FinKeep w shb ib lb si0 sl0 kb ki0 kl0 sc kc g) (k : Same w w') : FinKeep w' shb ib lb si0 sl0 kb ki0 kl0 sc kc g := ⟨h.kp.same k, h.sp.same k, fun a => (h.it a).same k, h.lk.same k⟩

/-- The place that is handed to unlock. -/
structure Kp (w : World) (B kb ki0 kl0 : Nat) (kc : Int) : Prop where
  tk : Ty w kb 36
  hB : B ≤ kb
  kc0 : 0 ≤ kc
  kc1 : kc ≤ 69
  sp : Sp w kb 0 ki0 kl0 0 0 kc false false
theorem Kp.to {w V : World} {B kb ki0 kl0 : Nat} {kc : Int} (h : Kp w B kb ki0 kl0 kc) (ht : Ty V kb 36) (hc : ∀ o, V.cell? ⟨kb, o, none⟩ = w.cell? ⟨kb, o, none⟩) : Kp V B kb ki0 kl0 kc :=
  ⟨ht, h.hB, h.kc0, h.kc1, ⟨(hc _).trans h.sp.c0, (hc _).trans h.sp.c1, (hc _).trans h.sp.c2, (hc _).trans h.sp.c3⟩⟩

section
variable {B : Nat} {w0 V : World} {bb shb ib chb no p s lb cp : Nat} {c : Nat → Nat} {h sc : Int} {si0 sl0 : Nat} {ad : Option Addr}

/-! ### The dropping -/
theorem drop_excl (C : Common V bb shb ib chb no p s c h sc si0 sl0) (A : Abv B bb shb no c) (hB : Below B w0 V) (hBs : B ≤ V.heap.size) (E : Excl V ib lb) (i5 : V.cell? ⟨ib, 5, none⟩ = some (.slice ad 0 cp)) :
    Common (V.setCell ⟨ib, 4, none⟩ (.pointer none)) bb shb ib chb no p s c h sc si0 sl0 ∧ Below B w0 (V.setCell ⟨ib, 4, none⟩ (.pointer none)) ∧ B ≤ (V.setCell ⟨ib, 4, none⟩ (.pointer none)).heap.size ∧ Lk (V.setCell ⟨ib, 4, none⟩ (.pointer none)) lb ∧
    (V.setCell ⟨ib, 4, none⟩ (.pointer none)).cell? ⟨ib, 4, none⟩ = some (.pointer none) ∧ (V.setCell ⟨ib, 4, none⟩ (.pointer none)).cell? ⟨ib, 5, none⟩ = some (.slice ad 0 cp) ∧
    (∀ b t, Ty V b t → Ty (V.setCell ⟨ib, 4, none⟩ (.pointer none)) b t) ∧ (∀ b o, Ty V b 36 → (V.setCell ⟨ib, 4, none⟩ (.pointer none)).cell? ⟨b, o, none⟩ = V.cell? ⟨b, o, none⟩) := by
  have hU : Un (fun b o => b = ib ∧ o = 4) V (V.setCell ⟨ib, 4, none⟩ (.pointer none)) := (Un.refl _ V).set ⟨rfl, rfl⟩ _
  obtain ⟨x, a4⟩ := E.a4
  refine ⟨C.keep hU (fun b o e => .inl ⟨e.1, .inl e.2⟩), hB.setCell (by rw [← C.cp]; exact A.c p C.hp) _, by simpa using hBs, E.lk.to (hU.ty _ _ E.lk.ty) (fun o => far _ _ (C.ti.ne E.lk.ty (by decide))),
    hit _ _ a4, (near _ _ (by decide)).trans i5, hU.ty, fun b o ht => far _ _ (C.ti.ne ht (by decide))⟩

variable {rb mm k : Nat} {r : Nat → Nat}
/-- The readers' list behind the dropping of the k-th. -/
def left (r : Nat → Nat) (mm k i : Nat) : Nat := if i = k then r mm else r i

theorem drop_shared (C : Common V bb shb ib chb no p s c h sc si0 sl0) (A : Abv B bb shb no c) (hB : Below B w0 V) (hBs : B ≤ V.heap.size) (E : Shar V ib rb mm k cp r) (hrB : B ≤ rb) (hlB : ∀ i, i ≤ mm → B ≤ r i) :
    Common (dropW V ib rb (r mm) mm k cp).drew bb shb ib chb no p s c h sc si0 sl0 ∧ Below B w0 (dropW V ib rb (r mm) mm k cp).drew ∧ B ≤ (dropW V ib rb (r mm) mm k cp).drew.heap.size ∧ Lk (dropW V ib rb (r mm) mm k cp).drew (r k) ∧
    (dropW V ib rb (r mm) mm k cp).drew.cell? ⟨ib, 4, none⟩ = some (.pointer none) ∧ (dropW V ib rb (r mm) mm k cp).drew.cell? ⟨ib, 5, none⟩ = some (.slice (some ⟨rb, 0, none⟩) mm cp) ∧
    (∀ b t, Ty V b t → Ty (dropW V ib rb (r mm) mm k cp).drew b t) ∧ (∀ b o, Ty V b 36 → (dropW V ib rb (r mm) mm k cp).drew.cell? ⟨b, o, none⟩ = V.cell? ⟨b, o, none⟩) ∧
    (∀ mdb, Ty V mdb 34 → mdb ≠ rb → (∀ i, i < mm → V.cell? ⟨mdb, i, none⟩ = some (.pointer (some ⟨left r mm k i, 0, none⟩))) → Rd (dropW V ib rb (r mm) mm k cp).drew rb mdb mm (r k) (left r mm k)) := by
  have hk := E.hk
  have tm := (E.lk mm (Nat.le_refl _)).ty
  have hir : ib ≠ rb := E.ti.ne E.tr (by decide)
  have him : ib ≠ r mm := E.ti.ne tm (by decide)
  have hmr : r mm ≠ rb := tm.ne E.tr (by decide)
  have hU : Un (fun b o => (b = ib ∧ o = 5) ∨ b = rb ∨ (b = r mm ∧ o = 3)) V (dropW V ib rb (r mm) mm k cp).drew :=
    ((Un.refl _ V).dropW (.inr (.inl rfl)) (.inr (.inr ⟨rfl, rfl⟩)) (.inr (.inl rfl)) (.inl ⟨rfl, rfl⟩)).drew
  have hoth : ∀ b o, b ≠ ib → b ≠ rb → b ≠ r mm → (dropW V ib rb (r mm) mm k cp).drew.cell? ⟨b, o, none⟩ = V.cell? ⟨b, o, none⟩ := fun b o h1 h2 h3 => by
    rw [World.cell?_drew]
    unfold dropW
    rw [far _ _ (Ne.symm h1), far _ _ (Ne.symm h2), far _ _ (Ne.symm h3), far _ _ (Ne.symm h2)]
  have hlk : ∀ o, o ≠ 3 → ∀ i, i ≤ mm → (dropW V ib rb (r mm) mm k cp).drew.cell? ⟨r i, o, none⟩ = V.cell? ⟨r i, o, none⟩ := fun o ho i hi => by
    have ti := (E.lk i hi).ty
    rw [World.cell?_drew]
    unfold dropW
    rw [far _ _ (E.ti.ne ti (by decide)), far _ _ (E.tr.ne ti (by decide))]
    rw [World.cell?_setCell_other _ _ _ _ (fun e => by injection e with e1 e2; exact ho e2.symm), far _ _ (E.tr.ne ti (by decide))]
  have hat : (dropW V ib rb (r mm) mm k cp).drew.cell? ⟨r mm, 3, none⟩ = some (.int .i64 k) := by
    rw [World.cell?_drew]
    unfold dropW
    rw [far _ _ him, far _ _ hmr.symm]
    exact hit (u := .int .i64 mm) _ _ (by rw [far _ _ hmr.symm]; exact E.a3 mm (Nat.le_refl _))
  have hat2 : ∀ i, i ≤ mm → i ≠ mm → (dropW V ib rb (r mm) mm k cp).drew.cell? ⟨r i, 3, none⟩ = some (.int .i64 i) := fun i hi hne => by
    have ti := (E.lk i hi).ty
    exact (hoth _ _ (ti.ne E.ti (by decide)) (ti.ne E.tr (by decide)) (fun e => hne (E.rinj i mm hi (Nat.le_refl _) e))).trans (E.a3 i hi)
  refine ⟨C.keep hU ?_, ?_, ?_, ?_, ?_, ?_, hU.ty, fun b o ht => hoth b o (ht.ne E.ti (by decide)) (ht.ne E.tr (by decide)) (ht.ne tm (by decide)), ?_⟩
  · intro b o e
    rcases e with ⟨e1, e2⟩ | e | ⟨e, _⟩
    · exact .inl ⟨e1, .inr e2⟩
    · exact .inr ⟨34, e ▸ E.tr, by decide, by decide, by decide⟩
    · exact .inr ⟨50, e ▸ tm, by decide, by decide, by decide⟩
  · refine hB.trans (hU.below B hBs ?_)
    intro b o e
    rcases e with ⟨e, _⟩ | e | ⟨e, _⟩
    · rw [e, ← C.cp]; exact A.c p C.hp
    · rw [e]; exact hrB
    · rw [e]; exact hlB mm (Nat.le_refl _)
  · exact Nat.le_trans hBs hU.size
  · have L := E.lk k hk
    refine ⟨hU.ty _ _ L.ty, ?_, ?_, ?_, ?_, ?_⟩
    · rw [hlk 0 (by decide) k hk]; exact L.c0
    · rw [hlk 1 (by decide) k hk]; exact L.c1
    · rw [hlk 2 (by decide) k hk]; exact L.c2
    · by_cases e : k = mm
      · subst e; exact ⟨_, hat⟩
      · exact ⟨_, hat2 k hk e⟩
    · rw [hlk 4 (by decide) k hk]; exact L.c4
  · rw [World.cell?_drew]
    unfold dropW
    rw [near _ _ (by decide), far _ _ hir.symm, far _ _ him.symm, far _ _ hir.symm]
    exact E.a4
  · rw [World.cell?_drew]
    unfold dropW
    exact hit (u := .slice (some ⟨rb, 0, none⟩) (mm + 1) cp) _ _ (by rw [far _ _ hir.symm, far _ _ him.symm, far _ _ hir.symm]; exact E.a5)
  · intro mdb tmd hne hmd
    refine ⟨hU.ty _ _ E.tr, hU.ty _ _ tmd, ?_, ?_, ?_⟩
    · intro i hi
      unfold left
      split
      · exact hU.ty _ _ tm
      · exact hU.ty _ _ (E.lk i (by omega)).ty
    · intro i hi
      unfold left
      split
      · intro e
        have := E.rinj mm k (Nat.le_refl _) hk e
        omega
      · intro e
        have := E.rinj i k (by omega) hk e
        omega
    · intro i hi
      refine ⟨?_, (hoth _ _ (tmd.ne E.ti (by decide)) hne (tmd.ne tm (by decide))).trans (hmd i hi), ?_⟩
      · rw [World.cell?_drew]
        unfold dropW
        rw [far _ _ hir, near _ _ (by omega), far _ _ hmr]
        unfold left
        by_cases e : i = k
        · subst e
          rw [if_pos rfl]
          exact hit _ _ (E.rd i hk)
        · rw [if_neg e, near _ _ (fun h => e h.symm)]
          exact E.rd i (by omega)
      · unfold left
        by_cases e : i = k
        · subst e
          rw [if_pos rfl]
          exact hat
        · rw [if_neg e]
          exact hat2 i (by omega) (by omega)

theorem U_excl_nil (m : Value) (C : Common V bb shb ib chb no p s c h sc si0 sl0) (A : Abv B bb shb no c) (hB : Below B w0 V) (hBs : B ≤ V.heap.size) (E : Excl V ib lb) (hlB : B ≤ lb) (i5 : V.cell? ⟨ib, 5, none⟩ = some (.slice ad 0 cp)) :
    Calls Yba.prog 4 #[m, .pointer (some ⟨lb, 0, none⟩), .pointer none] V fun e w' => e = .returned (.tuple #[]) ∧ PostG B w0 w' ib bb shb chb no p s cp c ad ∧ FinNil w' shb ib lb si0 sl0 sc true := by
  obtain ⟨C1, hB1, hBs1, L1, j4, j5, hty, h36⟩ := drop_excl C A hB hBs E i5
  by_cases hs : sc < 1024
  · obtain ⟨L, Po, S, I, Lc, g36, k36, gt⟩ := G_shard C1 A hB1 hBs1 L1 hlB j4 j5
    have F : FinNil _ shb ib lb si0 sl0 sc true := ⟨by simpa [hs] using S, fun _ _ => I, fun _ => Lc⟩
    exact (excl_nil_shard' m E L hs (forget_nil_shard C1 j4 j5 hs)).mono (fun e w' ⟨he, nd, hw⟩ => ⟨he, by rw [hw]; exact ⟨Po.drewN nd, F.same (Same.drewN _ nd)⟩⟩)
  · have hs' := hs
    have hs : 1024 ≤ sc := by omega
    obtain ⟨L, Po, S, g36, gt⟩ := G_none C1 A hB1 hBs1 L1 j4 j5
    have F : FinNil _ shb ib lb si0 sl0 sc true := ⟨by simpa [hs'] using S, fun _ h => absurd h hs', fun h => absurd h hs'⟩
    exact (excl_nil_none' m E L hs (forget_nil_none C1 j4 j5 hs)).mono (fun e w' ⟨he, nd, hw⟩ => ⟨he, by rw [hw]; exact ⟨Po.drewN nd, F.same (Same.drewN _ nd)⟩⟩)

theorem U_excl_full (m : Value) (C : Common V bb shb ib chb no p s c h sc si0 sl0) (A : Abv B bb shb no c) (hB : Below B w0 V) (hBs : B ≤ V.heap.size) (E : Excl V ib lb) (hlB : B ≤ lb) (i5 : V.cell? ⟨ib, 5, none⟩ = some (.slice ad 0 cp)) {kb ki0 kl0 : Nat} {kc : Int} (KK : Kp V B kb ki0 kl0 kc) (hkf : ¬ kc < 64) :
    Calls Yba.prog 4 #[m, .pointer (some ⟨lb, 0, none⟩), .pointer (some ⟨kb, 0, none⟩)] V fun e w' => e = .returned (.tuple #[]) ∧ PostG B w0 w' ib bb shb chb no p s cp c ad ∧ FinFull w' shb ib lb si0 sl0 kb ki0 kl0 sc kc true := by
  obtain ⟨C1, hB1, hBs1, L1, j4, j5, hty, h36⟩ := drop_excl C A hB hBs E i5
  have K1 := KK.to (hty _ _ KK.tk) (fun o => h36 kb o KK.tk)
  by_cases hs : sc < 1024
  · obtain ⟨L, Po, S, I, Lc, g36, k36, gt⟩ := G_shard C1 A hB1 hBs1 L1 hlB j4 j5
    have F : FinFull _ shb ib lb si0 sl0 kb ki0 kl0 sc kc true := ⟨⟨(k36 _ _ K1.tk).trans K1.sp.c0, (k36 _ _ K1.tk).trans K1.sp.c1, (k36 _ _ K1.tk).trans K1.sp.c2, (k36 _ _ K1.tk).trans K1.sp.c3⟩, ⟨by simpa [hs] using S, fun _ _ => I, fun _ => Lc⟩⟩
    exact (excl_full_shard' m E L ⟨gt _ _ K1.tk, (g36 _ _ K1.tk).trans K1.sp.c1, (g36 _ _ K1.tk).trans K1.sp.c3, K1.kc0⟩ (by omega) hs (forget_full_shard C1 j4 j5 K1.kc0 K1.tk K1.sp.c0 K1.sp.c2 (by omega) hs)).mono (fun e w' ⟨he, nd, hw⟩ => ⟨he, by rw [hw]; exact ⟨Po.drewN nd, F.same (Same.drewN _ nd)⟩⟩)
  · have hs' := hs
    have hs : 1024 ≤ sc := by omega
    obtain ⟨L, Po, S, g36, gt⟩ := G_none C1 A hB1 hBs1 L1 j4 j5
    have F : FinFull _ shb ib lb si0 sl0 kb ki0 kl0 sc kc true := ⟨⟨(g36 _ _ K1.tk).trans K1.sp.c0, (g36 _ _ K1.tk).trans K1.sp.c1, (g36 _ _ K1.tk).trans K1.sp.c2, (g36 _ _ K1.tk).trans K1.sp.c3⟩, ⟨by simpa [hs'] using S, fun _ h => absurd h hs', fun h => absurd h hs'⟩⟩
    exact (excl_full_none' m E L ⟨gt _ _ K1.tk, (g36 _ _ K1.tk).trans K1.sp.c1, (g36 _ _ K1.tk).trans K1.sp.c3, K1.kc0⟩ (by omega) hs (forget_full_none C1 j4 j5 K1.kc0 K1.tk K1.sp.c0 K1.sp.c2 (by omega) hs)).mono (fun e w' ⟨he, nd, hw⟩ => ⟨he, by rw [hw]; exact ⟨Po.drewN nd, F.same (Same.drewN _ nd)⟩⟩)

theorem U_excl_keep (m : Value) (C : Common V bb shb ib chb no p s c h sc si0 sl0) (A : Abv B bb shb no c) (hB : Below B w0 V) (hBs : B ≤ V.heap.size) (E : Excl V ib lb) (hlB : B ≤ lb) (i5 : V.cell? ⟨ib, 5, none⟩ = some (.slice ad 0 cp)) {kb ki0 kl0 : Nat} {kc : Int} (KK : Kp V B kb ki0 kl0 kc) (hk64 : kc < 64) :
    Calls Yba.prog 4 #[m, .pointer (some ⟨lb, 0, none⟩), .pointer (some ⟨kb, 0, none⟩)] V fun e w' => e = .returned (.tuple #[]) ∧ PostG B w0 w' ib bb shb chb no p s cp c ad ∧ FinKeep w' shb ib lb si0 sl0 kb ki0 kl0 sc kc true := by
  obtain ⟨C1, hB1, hBs1, L1, j4, j5, hty, h36⟩ := drop_excl C A hB hBs E i5
  have K1 := KK.to (hty _ _ KK.tk) (fun o => h36 kb o KK.tk)
  obtain ⟨L, KP, Po, S1, S2, I, Lc⟩ := G_keep C1 A hB1 hBs1 L1 hlB j4 j5 K1.kc0 K1.tk K1.hB K1.sp
  have F : FinKeep _ shb ib lb si0 sl0 kb ki0 kl0 sc kc true := ⟨S1, S2, fun _ => I, Lc⟩
  exact (excl_keep' m E L KP hk64 (forget_keep C1 j4 j5 K1.kc0 K1.tk K1.sp.c0 K1.sp.c2 hk64)).mono (fun e w' ⟨he, nd, hw⟩ => ⟨he, by rw [hw]; exact ⟨Po.drewN nd, F.same (Same.drewN _ nd)⟩⟩)

theorem U_sgone_nil (m : Value) (C : Common V bb shb ib chb no p s c h sc si0 sl0) (A : Abv B bb shb no c) (hB : Below B w0 V) (hBs : B ≤ V.heap.size) (E : Shar V ib rb 0 k cp r) (hrB : B ≤ rb) (hlB : ∀ i, i ≤ 0 → B ≤ r i) :
    Calls Yba.prog 4 #[m, .pointer (some ⟨(r k), 0, none⟩), .pointer none] V fun e w' => e = .returned (.tuple #[]) ∧ PostG B w0 w' ib bb shb chb no p s cp c (some ⟨rb, 0, none⟩) ∧ FinNil w' shb ib (r k) si0 sl0 sc true := by
  obtain ⟨C1, hB1, hBs1, L1, j4, j5, hty, h36, hR⟩ := drop_shared C A hB hBs E hrB hlB
  by_cases hs : sc < 1024
  · obtain ⟨L, Po, S, I, Lc, g36, k36, gt⟩ := G_shard C1 A hB1 hBs1 L1 (hlB k E.hk) j4 j5
    have F : FinNil _ shb ib (r k) si0 sl0 sc true := ⟨by simpa [hs] using S, fun _ _ => I, fun _ => Lc⟩
    exact (shared_nil_shard' m E L hs (forget_nil_shard C1 j4 j5 hs)).mono (fun e w' ⟨he, nd, hw⟩ => ⟨he, by rw [hw]; exact ⟨Po.drewN nd, F.same (Same.drewN _ nd)⟩⟩)
  · have hs' := hs
    have hs : 1024 ≤ sc := by omega
    obtain ⟨L, Po, S, g36, gt⟩ := G_none C1 A hB1 hBs1 L1 j4 j5
    have F : FinNil _ shb ib (r k) si0 sl0 sc true := ⟨by simpa [hs'] using S, fun _ h => absurd h hs', fun h => absurd h hs'⟩
    exact (shared_nil_none' m E L hs (forget_nil_none C1 j4 j5 hs)).mono (fun e w' ⟨he, nd, hw⟩ => ⟨he, by rw [hw]; exact ⟨Po.drewN nd, F.same (Same.drewN _ nd)⟩⟩)

theorem U_sgone_full (m : Value) (C : Common V bb shb ib chb no p s c h sc si0 sl0) (A : Abv B bb shb no c) (hB : Below B w0 V) (hBs : B ≤ V.heap.size) (E : Shar V ib rb 0 k cp r) (hrB : B ≤ rb) (hlB : ∀ i, i ≤ 0 → B ≤ r i) {kb ki0 kl0 : Nat} {kc : Int} (KK : Kp V B kb ki0 kl0 kc) (hkf : ¬ kc < 64) :
    Calls Yba.prog 4 #[m, .pointer (some ⟨(r k), 0, none⟩), .pointer (some ⟨kb, 0, none⟩)] V fun e w' => e = .returned (.tuple #[]) ∧ PostG B w0 w' ib bb shb chb no p s cp c (some ⟨rb, 0, none⟩) ∧ FinFull w' shb ib (r k) si0 sl0 kb ki0 kl0 sc kc true := by
  obtain ⟨C1, hB1, hBs1, L1, j4, j5, hty, h36, hR⟩ := drop_shared C A hB hBs E hrB hlB
  have K1 := KK.to (hty _ _ KK.tk) (fun o => h36 kb o KK.tk)
  by_cases hs : sc < 1024
  · obtain ⟨L, Po, S, I, Lc, g36, k36, gt⟩ := G_shard C1 A hB1 hBs1 L1 (hlB k E.hk) j4 j5
    have F : FinFull _ shb ib (r k) si0 sl0 kb ki0 kl0 sc kc true := ⟨⟨(k36 _ _ K1.tk).trans K1.sp.c0, (k36 _ _ K1.tk).trans K1.sp.c1, (k36 _ _ K1.tk).trans K1.sp.c2, (k36 _ _ K1.tk).trans K1.sp.c3⟩, ⟨by simpa [hs] using S, fun _ _ => I, fun _ => Lc⟩⟩
    exact (shared_full_shard' m E L ⟨gt _ _ K1.tk, (g36 _ _ K1.tk).trans K1.sp.c1, (g36 _ _ K1.tk).trans K1.sp.c3, K1.kc0⟩ (by omega) hs (forget_full_shard C1 j4 j5 K1.kc0 K1.tk K1.sp.c0 K1.sp.c2 (by omega) hs)).mono (fun e w' ⟨he, nd, hw⟩ => ⟨he, by rw [hw]; exact ⟨Po.drewN nd, F.same (Same.drewN _ nd)⟩⟩)
  · have hs' := hs
    have hs : 1024 ≤ sc := by omega
    obtain ⟨L, Po, S, g36, gt⟩ := G_none C1 A hB1 hBs1 L1 j4 j5
    have F : FinFull _ shb ib (r k) si0 sl0 kb ki0 kl0 sc kc true := ⟨⟨(g36 _ _ K1.tk).trans K1.sp.c0, (g36 _ _ K1.tk).trans K1.sp.c1, (g36 _ _ K1.tk).trans K1.sp.c2, (g36 _ _ K1.tk).trans K1.sp.c3⟩, ⟨by simpa [hs'] using S, fun _ h => absurd h hs', fun h => absurd h hs'⟩⟩
    exact (shared_full_none' m E L ⟨gt _ _ K1.tk, (g36 _ _ K1.tk).trans K1.sp.c1, (g36 _ _ K1.tk).trans K1.sp.c3, K1.kc0⟩ (by omega) hs (forget_full_none C1 j4 j5 K1.kc0 K1.tk K1.sp.c0 K1.sp.c2 (by omega) hs)).mono (fun e w' ⟨he, nd, hw⟩ => ⟨he, by rw [hw]; exact ⟨Po.drewN nd, F.same (Same.drewN _ nd)⟩⟩)

theorem U_sgone_keep (m : Value) (C : Common V bb shb ib chb no p s c h sc si0 sl0) (A : Abv B bb shb no c) (hB : Below B w0 V) (hBs : B ≤ V.heap.size) (E : Shar V ib rb 0 k cp r) (hrB : B ≤ rb) (hlB : ∀ i, i ≤ 0 → B ≤ r i) {kb ki0 kl0 : Nat} {kc : Int} (KK : Kp V B kb ki0 kl0 kc) (hk64 : kc < 64) :
    Calls Yba.prog 4 #[m, .pointer (some ⟨(r k), 0, none⟩), .pointer (some ⟨kb, 0, none⟩)] V fun e w' => e = .returned (.tuple #[]) ∧ PostG B w0 w' ib bb shb chb no p s cp c (some ⟨rb, 0, none⟩) ∧ FinKeep w' shb ib (r k) si0 sl0 kb ki0 kl0 sc kc true := by
  obtain ⟨C1, hB1, hBs1, L1, j4, j5, hty, h36, hR⟩ := drop_shared C A hB hBs E hrB hlB
  have K1 := KK.to (hty _ _ KK.tk) (fun o => h36 kb o KK.tk)
  obtain ⟨L, KP, Po, S1, S2, I, Lc⟩ := G_keep C1 A hB1 hBs1 L1 (hlB k E.hk) j4 j5 K1.kc0 K1.tk K1.hB K1.sp
  have F : FinKeep _ shb ib (r k) si0 sl0 kb ki0 kl0 sc kc true := ⟨S1, S2, fun _ => I, Lc⟩
  exact (shared_keep' m E L KP hk64 (forget_keep C1 j4 j5 K1.kc0 K1.tk K1.sp.c0 K1.sp.c2 hk64)).mono (fun e w' ⟨he, nd, hw⟩ => ⟨he, by rw [hw]; exact ⟨Po.drewN nd, F.same (Same.drewN _ nd)⟩⟩)

theorem U_sheld_nil (m : Value) (C : Common V bb shb ib chb no p s c h sc si0 sl0) (A : Abv B bb shb no c) (hB : Below B w0 V) (hBs : B ≤ V.heap.size) (E : Shar V ib rb mm k cp r) (hrB : B ≤ rb) (hlB : ∀ i, i ≤ mm → B ≤ r i) {mdb : Nat} (hm0 : 0 < mm) (tmd : Ty V mdb 34) (hne : mdb ≠ rb) (hmd : ∀ i, i < mm → V.cell? ⟨mdb, i, none⟩ = some (.pointer (some ⟨left r mm k i, 0, none⟩))) :
    Calls Yba.prog 4 #[m, .pointer (some ⟨(r k), 0, none⟩), .pointer none] V fun e w' => e = .returned (.tuple #[]) ∧ PostH B w0 w' ib bb shb chb no s cp rb mdb mm c (left r mm k) ∧ FinNil w' shb ib (r k) si0 sl0 sc false := by
  obtain ⟨C1, hB1, hBs1, L1, j4, j5, hty, h36, hR⟩ := drop_shared C A hB hBs E hrB hlB
  have hR := hR mdb tmd hne hmd
  obtain ⟨L, Po0, S0⟩ := H_none C1 A hB1 hBs1 L1 hR j4 j5
  by_cases hs : sc < 1024
  · obtain ⟨Po, S, Lc, k36⟩ := H_shard C1 A hB1 hBs1 L1 (hlB k E.hk) hR j4 j5
    have F : FinNil _ shb ib (r k) si0 sl0 sc false := ⟨by simpa [hs] using S, fun h => absurd h (by decide), fun _ => Lc⟩
    exact (shared_nil_shard' m E L hs ((forget_held ib mm cp (some ⟨rb, 0, none⟩) (.pointer none) _ hm0 j4 j5).mono (fun e w' ⟨he, hw⟩ => ⟨he, 0, by rw [hw]; rfl⟩))).mono (fun e w' ⟨he, nd, hw⟩ => ⟨he, by rw [hw]; exact ⟨Po.drewN nd, F.same (Same.drewN _ nd)⟩⟩)
  · have hs' := hs
    have hs : 1024 ≤ sc := by omega
    have S := S0
    have F : FinNil _ shb ib (r k) si0 sl0 sc false := ⟨by simpa [hs'] using S, fun h => absurd h (by decide), fun h => absurd h hs'⟩
    exact (shared_nil_none' m E L hs ((forget_held ib mm cp (some ⟨rb, 0, none⟩) (.pointer none) _ hm0 j4 j5).mono (fun e w' ⟨he, hw⟩ => ⟨he, 0, by rw [hw]; rfl⟩))).mono (fun e w' ⟨he, nd, hw⟩ => ⟨he, by rw [hw]; exact ⟨Po0.drewN nd, F.same (Same.drewN _ nd)⟩⟩)

theorem U_sheld_full (m : Value) (C : Common V bb shb ib chb no p s c h sc si0 sl0) (A : Abv B bb shb no c) (hB : Below B w0 V) (hBs : B ≤ V.heap.size) (E : Shar V ib rb mm k cp r) (hrB : B ≤ rb) (hlB : ∀ i, i ≤ mm → B ≤ r i) {mdb : Nat} (hm0 : 0 < mm) (tmd : Ty V mdb 34) (hne : mdb ≠ rb) (hmd : ∀ i, i < mm → V.cell? ⟨mdb, i, none⟩ = some (.pointer (some ⟨left r mm k i, 0, none⟩))) {kb ki0 kl0 : Nat} {kc : Int} (KK : Kp V B kb ki0 kl0 kc) (hkf : ¬ kc < 64) :
    Calls Yba.prog 4 #[m, .pointer (some ⟨(r k), 0, none⟩), .pointer (some ⟨kb, 0, none⟩)] V fun e w' => e = .returned (.tuple #[]) ∧ PostH B w0 w' ib bb shb chb no s cp rb mdb mm c (left r mm k) ∧ FinFull w' shb ib (r k) si0 sl0 kb ki0 kl0 sc kc false := by
  obtain ⟨C1, hB1, hBs1, L1, j4, j5, hty, h36, hR⟩ := drop_shared C A hB hBs E hrB hlB
  have hR := hR mdb tmd hne hmd
  have K1 := KK.to (hty _ _ KK.tk) (fun o => h36 kb o KK.tk)
  obtain ⟨L, Po0, S0⟩ := H_none C1 A hB1 hBs1 L1 hR j4 j5
  by_cases hs : sc < 1024
  · obtain ⟨Po, S, Lc, k36⟩ := H_shard C1 A hB1 hBs1 L1 (hlB k E.hk) hR j4 j5
    have F : FinFull _ shb ib (r k) si0 sl0 kb ki0 kl0 sc kc false := ⟨⟨(k36 _ _ K1.tk).trans K1.sp.c0, (k36 _ _ K1.tk).trans K1.sp.c1, (k36 _ _ K1.tk).trans K1.sp.c2, (k36 _ _ K1.tk).trans K1.sp.c3⟩, ⟨by simpa [hs] using S, fun h => absurd h (by decide), fun _ => Lc⟩⟩
    exact (shared_full_shard' m E L ⟨K1.tk, K1.sp.c1, K1.sp.c3, K1.kc0⟩ (by omega) hs ((forget_held ib mm cp (some ⟨rb, 0, none⟩) (.pointer (some ⟨kb, 0, none⟩)) _ hm0 j4 j5).mono (fun e w' ⟨he, hw⟩ => ⟨he, 0, by rw [hw]; rfl⟩))).mono (fun e w' ⟨he, nd, hw⟩ => ⟨he, by rw [hw]; exact ⟨Po.drewN nd, F.same (Same.drewN _ nd)⟩⟩)
  · have hs' := hs
    have hs : 1024 ≤ sc := by omega
    have S := S0
    have F : FinFull _ shb ib (r k) si0 sl0 kb ki0 kl0 sc kc false := ⟨⟨K1.sp.c0, K1.sp.c1, K1.sp.c2, K1.sp.c3⟩, ⟨by simpa [hs'] using S, fun h => absurd h (by decide), fun h => absurd h hs'⟩⟩
    exact (shared_full_none' m E L ⟨K1.tk, K1.sp.c1, K1.sp.c3, K1.kc0⟩ (by omega) hs ((forget_held ib mm cp (some ⟨rb, 0, none⟩) (.pointer (some ⟨kb, 0, none⟩)) _ hm0 j4 j5).mono (fun e w' ⟨he, hw⟩ => ⟨he, 0, by rw [hw]; rfl⟩))).mono (fun e w' ⟨he, nd, hw⟩ => ⟨he, by rw [hw]; exact ⟨Po0.drewN nd, F.same (Same.drewN _ nd)⟩⟩)

theorem U_sheld_keep (m : Value) (C : Common V bb shb ib chb no p s c h sc si0 sl0) (A : Abv B bb shb no c) (hB : Below B w0 V) (hBs : B ≤ V.heap.size) (E : Shar V ib rb mm k cp r) (hrB : B ≤ rb) (hlB : ∀ i, i ≤ mm → B ≤ r i) {mdb : Nat} (hm0 : 0 < mm) (tmd : Ty V mdb 34) (hne : mdb ≠ rb) (hmd : ∀ i, i < mm → V.cell? ⟨mdb, i, none⟩ = some (.pointer (some ⟨left r mm k i, 0, none⟩))) {kb ki0 kl0 : Nat} {kc : Int} (KK : Kp V B kb ki0 kl0 kc) (hk64 : kc < 64) :
    Calls Yba.prog 4 #[m, .pointer (some ⟨(r k), 0, none⟩), .pointer (some ⟨kb, 0, none⟩)] V fun e w' => e = .returned (.tuple #[]) ∧ PostH B w0 w' ib bb shb chb no s cp rb mdb mm c (left r mm k) ∧ FinKeep w' shb ib (r k) si0 sl0 kb ki0 kl0 sc kc false := by
  obtain ⟨C1, hB1, hBs1, L1, j4, j5, hty, h36, hR⟩ := drop_shared C A hB hBs E hrB hlB
  have hR := hR mdb tmd hne hmd
  have K1 := KK.to (hty _ _ KK.tk) (fun o => h36 kb o KK.tk)
  obtain ⟨L, Po0, S0⟩ := H_none C1 A hB1 hBs1 L1 hR j4 j5
  obtain ⟨KP, Po, S1, S2, Lc⟩ := H_keep C1 A hB1 hBs1 L1 (hlB k E.hk) hR j4 j5 K1.kc0 K1.tk K1.hB K1.sp
  have F : FinKeep _ shb ib (r k) si0 sl0 kb ki0 kl0 sc kc false := ⟨S1, S2, fun h => absurd h (by decide), Lc⟩
  exact (shared_keep' m E L KP hk64 ((forget_held ib mm cp (some ⟨rb, 0, none⟩) (.pointer (some ⟨kb, 0, none⟩)) _ hm0 j4 j5).mono (fun e w' ⟨he, hw⟩ => ⟨he, 0, by rw [hw]; rfl⟩))).mono (fun e w' ⟨he, nd, hw⟩ => ⟨he, by rw [hw]; exact ⟨Po.drewN nd, F.same (Same.drewN _ nd)⟩⟩)

end

end Go.Proofs.Ybulkclue.Join
