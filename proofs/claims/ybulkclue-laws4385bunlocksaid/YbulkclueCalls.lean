/- unlock and forget at the law's own state: their premises told by structures. -/
import Derived.Test.YbulkclueDone
namespace Go.Proofs.Ybulkclue.Join
set_option linter.unusedVariables false
open Go.RowKit Go.Proofs.Ybulkclue.Leaves Go.Proofs.Ybulkclue.Forget Go.Proofs.Ybulkclue.Mem Go.Proofs.Ybulkclue.Steps

/-- What the keeping of the lock asks of the world behind forget. -/
structure LPre (w : World) (ib lb shb sl0 : Nat) (sc : Int) : Prop where
  i2 : w.cell? ⟨ib, 2, none⟩ = some (.pointer (some ⟨shb, 0, none⟩))
  lk : Lk w lb
  tsh : Ty w shb 39
  s5 : w.cell? ⟨shb, 5, none⟩ = some (.pointer (some ⟨sl0, 0, none⟩))
  s7 : w.cell? ⟨shb, 7, none⟩ = some (.int .i32 sc)
  sc0 : 0 ≤ sc
structure KPre (w : World) (kb kl0 : Nat) (kc : Int) : Prop where
  tk : Ty w kb 36
  k1 : w.cell? ⟨kb, 1, none⟩ = some (.pointer (some ⟨kl0, 0, none⟩))
  k3 : w.cell? ⟨kb, 3, none⟩ = some (.int .i32 kc)
  kc0 : 0 ≤ kc

/-- The exclusive lock, ahead of its dropping. -/
structure Excl (w : World) (ib lb : Nat) : Prop where
  ti : Ty w ib 47
  lk : Lk w lb
  a1 : w.cell? ⟨lb, 1, none⟩ = some (.pointer (some ⟨ib, 0, none⟩))
  a2 : w.cell? ⟨lb, 2, none⟩ = some (.int .u8 2)
  a4 : ∃ x, w.cell? ⟨ib, 4, none⟩ = some (.pointer x)
  a7 : w.cell? ⟨ib, 7, none⟩ = some (.pointer none)
/-- The shared lock that is the k-th of mm + 1 readers, ahead of its dropping. -/
structure Shar (w : World) (ib rb mm k cp : Nat) (r : Nat → Nat) : Prop where
  ti : Ty w ib 47
  tr : Ty w rb 34
  hk : k ≤ mm
  hm : mm < 8
  hc : mm + 1 ≤ cp
  lk : ∀ i, i ≤ mm → Lk w (r i)
  rinj : ∀ i j, i ≤ mm → j ≤ mm → r i = r j → i = j
  a1 : ∀ i, i ≤ mm → w.cell? ⟨r i, 1, none⟩ = some (.pointer (some ⟨ib, 0, none⟩))
  a2 : ∀ i, i ≤ mm → w.cell? ⟨r i, 2, none⟩ = some (.int .u8 1)
  a3 : ∀ i, i ≤ mm → w.cell? ⟨r i, 3, none⟩ = some (.int .i64 i)
  rd : ∀ i, i ≤ mm → w.cell? ⟨rb, i, none⟩ = some (.pointer (some ⟨r i, 0, none⟩))
  a4 : w.cell? ⟨ib, 4, none⟩ = some (.pointer none)
  a5 : w.cell? ⟨ib, 5, none⟩ = some (.slice (some ⟨rb, 0, none⟩) (mm + 1) cp)
  a7 : w.cell? ⟨ib, 7, none⟩ = some (.pointer none)

theorem excl_nil_none' (m : Value) {w w2 : World} {ib lb shb sl0 : Nat} {sc : Int} (E : Excl w ib lb) (L : LPre w2 ib lb shb sl0 sc) (hfull : 1024 ≤ sc)
    (hf : Calls Yba.prog 8 #[.pointer (some ⟨ib, 0, none⟩), .pointer none] (w.setCell ⟨ib, 4, none⟩ (.pointer none)) fun e w' => e = .returned (.tuple #[]) ∧ ∃ nd, w' = w2.drewN nd) :
    Calls Yba.prog 4 #[m, .pointer (some ⟨lb, 0, none⟩), .pointer none] w fun e w' => e = .returned (.tuple #[]) ∧ ∃ nd, w' = World.drewN (w2) nd := by
  obtain ⟨x, a4⟩ := E.a4
  obtain ⟨v0, l0⟩ := L.lk.c0
  obtain ⟨v1, l1⟩ := L.lk.c1
  obtain ⟨v2, l2⟩ := L.lk.c2
  obtain ⟨v3, l3⟩ := L.lk.c3
  obtain ⟨v4, l4⟩ := L.lk.c4
  exact Unlock.excl_nil_none m ib lb shb x w (E.ti.ne E.lk.ty (by decide)) E.a1 E.a2 a4 (E.ti.frozen 4) E.a7 w2 L.i2 v0 v1 v2 v3 v4 l0 l1 l2 l3 l4 (L.lk.ty.frozen 0) (L.lk.ty.frozen 1) (L.lk.ty.frozen 2) (L.lk.ty.frozen 3) (L.lk.ty.frozen 4) (some ⟨sl0, 0, none⟩) sc L.sc0 L.s5 L.s7 (L.tsh.frozen 5) (L.tsh.frozen 7) (L.lk.ty.ne L.tsh (by decide)) hfull hf

theorem excl_nil_shard' (m : Value) {w w2 : World} {ib lb shb sl0 : Nat} {sc : Int} (E : Excl w ib lb) (L : LPre w2 ib lb shb sl0 sc) (hroom : sc < 1024)
    (hf : Calls Yba.prog 8 #[.pointer (some ⟨ib, 0, none⟩), .pointer none] (w.setCell ⟨ib, 4, none⟩ (.pointer none)) fun e w' => e = .returned (.tuple #[]) ∧ ∃ nd, w' = w2.drewN nd) :
    Calls Yba.prog 4 #[m, .pointer (some ⟨lb, 0, none⟩), .pointer none] w fun e w' => e = .returned (.tuple #[]) ∧ ∃ nd, w' = World.drewN (keptLock w2 shb 4 lb (some ⟨sl0, 0, none⟩) sc) nd := by
  obtain ⟨x, a4⟩ := E.a4
  obtain ⟨v0, l0⟩ := L.lk.c0
  obtain ⟨v1, l1⟩ := L.lk.c1
  obtain ⟨v2, l2⟩ := L.lk.c2
  obtain ⟨v3, l3⟩ := L.lk.c3
  obtain ⟨v4, l4⟩ := L.lk.c4
  exact Unlock.excl_nil_shard m ib lb shb x w (E.ti.ne E.lk.ty (by decide)) E.a1 E.a2 a4 (E.ti.frozen 4) E.a7 w2 L.i2 v0 v1 v2 v3 v4 l0 l1 l2 l3 l4 (L.lk.ty.frozen 0) (L.lk.ty.frozen 1) (L.lk.ty.frozen 2) (L.lk.ty.frozen 3) (L.lk.ty.frozen 4) (some ⟨sl0, 0, none⟩) sc L.sc0 L.s5 L.s7 (L.tsh.frozen 5) (L.tsh.frozen 7) (L.lk.ty.ne L.tsh (by decide)) hroom hf

theorem excl_keep' (m : Value) {w w2 : World} {ib lb shb sl0 : Nat} {sc : Int} (E : Excl w ib lb) (L : LPre w2 ib lb shb sl0 sc) {kb kl0 : Nat} {kc : Int} (KP : KPre w2 kb kl0 kc) (hroom : kc < 64)
    (hf : Calls Yba.prog 8 #[.pointer (some ⟨ib, 0, none⟩), .pointer (some ⟨kb, 0, none⟩)] (w.setCell ⟨ib, 4, none⟩ (.pointer none)) fun e w' => e = .returned (.tuple #[]) ∧ ∃ nd, w' = w2.drewN nd) :
    Calls Yba.prog 4 #[m, .pointer (some ⟨lb, 0, none⟩), .pointer (some ⟨kb, 0, none⟩)] w fun e w' => e = .returned (.tuple #[]) ∧ ∃ nd, w' = World.drewN (keptLock w2 kb 0 lb (some ⟨kl0, 0, none⟩) kc) nd := by
  obtain ⟨x, a4⟩ := E.a4
  obtain ⟨v0, l0⟩ := L.lk.c0
  obtain ⟨v1, l1⟩ := L.lk.c1
  obtain ⟨v2, l2⟩ := L.lk.c2
  obtain ⟨v3, l3⟩ := L.lk.c3
  obtain ⟨v4, l4⟩ := L.lk.c4
  exact Unlock.excl_keep m ib lb shb x w (E.ti.ne E.lk.ty (by decide)) E.a1 E.a2 a4 (E.ti.frozen 4) E.a7 w2 L.i2 v0 v1 v2 v3 v4 l0 l1 l2 l3 l4 (L.lk.ty.frozen 0) (L.lk.ty.frozen 1) (L.lk.ty.frozen 2) (L.lk.ty.frozen 3) (L.lk.ty.frozen 4) (some ⟨sl0, 0, none⟩) sc L.sc0 L.s5 L.s7 (L.tsh.frozen 5) (L.tsh.frozen 7) (L.lk.ty.ne L.tsh (by decide)) kb (some ⟨kl0, 0, none⟩) kc KP.kc0 KP.k1 KP.k3 (KP.tk.frozen 1) (KP.tk.frozen 3) (L.lk.ty.ne KP.tk (by decide)) hroom hf

theorem excl_full_shard' (m : Value) {w w2 : World} {ib lb shb sl0 : Nat} {sc : Int} (E : Excl w ib lb) (L : LPre w2 ib lb shb sl0 sc) {kb kl0 : Nat} {kc : Int} (KP : KPre w2 kb kl0 kc) (hkfull : 64 ≤ kc) (hroom : sc < 1024)
    (hf : Calls Yba.prog 8 #[.pointer (some ⟨ib, 0, none⟩), .pointer (some ⟨kb, 0, none⟩)] (w.setCell ⟨ib, 4, none⟩ (.pointer none)) fun e w' => e = .returned (.tuple #[]) ∧ ∃ nd, w' = w2.drewN nd) :
    Calls Yba.prog 4 #[m, .pointer (some ⟨lb, 0, none⟩), .pointer (some ⟨kb, 0, none⟩)] w fun e w' => e = .returned (.tuple #[]) ∧ ∃ nd, w' = World.drewN (keptLock w2 shb 4 lb (some ⟨sl0, 0, none⟩) sc) nd := by
  obtain ⟨x, a4⟩ := E.a4
  obtain ⟨v0, l0⟩ := L.lk.c0
  obtain ⟨v1, l1⟩ := L.lk.c1
  obtain ⟨v2, l2⟩ := L.lk.c2
  obtain ⟨v3, l3⟩ := L.lk.c3
  obtain ⟨v4, l4⟩ := L.lk.c4
  exact Unlock.excl_full_shard m ib lb shb x w (E.ti.ne E.lk.ty (by decide)) E.a1 E.a2 a4 (E.ti.frozen 4) E.a7 w2 L.i2 v0 v1 v2 v3 v4 l0 l1 l2 l3 l4 (L.lk.ty.frozen 0) (L.lk.ty.frozen 1) (L.lk.ty.frozen 2) (L.lk.ty.frozen 3) (L.lk.ty.frozen 4) (some ⟨sl0, 0, none⟩) sc L.sc0 L.s5 L.s7 (L.tsh.frozen 5) (L.tsh.frozen 7) (L.lk.ty.ne L.tsh (by decide)) kb (some ⟨kl0, 0, none⟩) kc KP.kc0 KP.k1 KP.k3 (KP.tk.frozen 1) (KP.tk.frozen 3) (L.lk.ty.ne KP.tk (by decide)) hkfull hroom hf

theorem excl_full_none' (m : Value) {w w2 : World} {ib lb shb sl0 : Nat} {sc : Int} (E : Excl w ib lb) (L : LPre w2 ib lb shb sl0 sc) {kb kl0 : Nat} {kc : Int} (KP : KPre w2 kb kl0 kc) (hkfull : 64 ≤ kc) (hfull : 1024 ≤ sc)
    (hf : Calls Yba.prog 8 #[.pointer (some ⟨ib, 0, none⟩), .pointer (some ⟨kb, 0, none⟩)] (w.setCell ⟨ib, 4, none⟩ (.pointer none)) fun e w' => e = .returned (.tuple #[]) ∧ ∃ nd, w' = w2.drewN nd) :
    Calls Yba.prog 4 #[m, .pointer (some ⟨lb, 0, none⟩), .pointer (some ⟨kb, 0, none⟩)] w fun e w' => e = .returned (.tuple #[]) ∧ ∃ nd, w' = World.drewN (w2) nd := by
  obtain ⟨x, a4⟩ := E.a4
  obtain ⟨v0, l0⟩ := L.lk.c0
  obtain ⟨v1, l1⟩ := L.lk.c1
  obtain ⟨v2, l2⟩ := L.lk.c2
  obtain ⟨v3, l3⟩ := L.lk.c3
  obtain ⟨v4, l4⟩ := L.lk.c4
  exact Unlock.excl_full_none m ib lb shb x w (E.ti.ne E.lk.ty (by decide)) E.a1 E.a2 a4 (E.ti.frozen 4) E.a7 w2 L.i2 v0 v1 v2 v3 v4 l0 l1 l2 l3 l4 (L.lk.ty.frozen 0) (L.lk.ty.frozen 1) (L.lk.ty.frozen 2) (L.lk.ty.frozen 3) (L.lk.ty.frozen 4) (some ⟨sl0, 0, none⟩) sc L.sc0 L.s5 L.s7 (L.tsh.frozen 5) (L.tsh.frozen 7) (L.lk.ty.ne L.tsh (by decide)) kb (some ⟨kl0, 0, none⟩) kc KP.kc0 KP.k1 KP.k3 (KP.tk.frozen 1) (KP.tk.frozen 3) (L.lk.ty.ne KP.tk (by decide)) hkfull hfull hf

theorem shared_nil_none' (m : Value) {w w2 : World} {ib rb mm k cp shb sl0 : Nat} {r : Nat → Nat} {sc : Int} (E : Shar w ib rb mm k cp r) (L : LPre w2 ib (r k) shb sl0 sc) (hfull : 1024 ≤ sc)
    (hf : Calls Yba.prog 8 #[.pointer (some ⟨ib, 0, none⟩), .pointer none] (dropW w ib rb (r mm) mm k cp).drew fun e w' => e = .returned (.tuple #[]) ∧ ∃ nd, w' = w2.drewN nd) :
    Calls Yba.prog 4 #[m, .pointer (some ⟨(r k), 0, none⟩), .pointer none] w fun e w' => e = .returned (.tuple #[]) ∧ ∃ nd, w' = World.drewN (w2) nd := by
  obtain ⟨v0, l0⟩ := L.lk.c0
  obtain ⟨v1, l1⟩ := L.lk.c1
  obtain ⟨v2, l2⟩ := L.lk.c2
  obtain ⟨v3, l3⟩ := L.lk.c3
  obtain ⟨v4, l4⟩ := L.lk.c4
  exact Unlock.shared_nil_none m ib (r k) shb rb (r mm) mm k cp (mm : Int) _ w E.hk E.hm (E.ti.ne E.tr (by decide)) ((E.lk k E.hk).ty.ne E.tr (by decide)) (E.ti.ne (E.lk mm (Nat.le_refl _)).ty (by decide)) ((E.lk mm (Nat.le_refl _)).ty.ne E.tr (by decide)) (E.a1 k E.hk) (E.a2 k E.hk) E.a5 E.hc (E.a3 k E.hk) (E.rd mm (Nat.le_refl _)) (E.rd k E.hk) (E.a3 mm (Nat.le_refl _)) (E.tr.frozen k) ((E.lk mm (Nat.le_refl _)).ty.frozen 3) (E.tr.frozen mm) (E.ti.frozen 5) E.a7 w2 L.i2 v0 v1 v2 v3 v4 l0 l1 l2 l3 l4 (L.lk.ty.frozen 0) (L.lk.ty.frozen 1) (L.lk.ty.frozen 2) (L.lk.ty.frozen 3) (L.lk.ty.frozen 4) (some ⟨sl0, 0, none⟩) sc L.sc0 L.s5 L.s7 (L.tsh.frozen 5) (L.tsh.frozen 7) (L.lk.ty.ne L.tsh (by decide)) hfull hf

theorem shared_nil_shard' (m : Value) {w w2 : World} {ib rb mm k cp shb sl0 : Nat} {r : Nat → Nat} {sc : Int} (E : Shar w ib rb mm k cp r) (L : LPre w2 ib (r k) shb sl0 sc) (hroom : sc < 1024)
    (hf : Calls Yba.prog 8 #[.pointer (some ⟨ib, 0, none⟩), .pointer none] (dropW w ib rb (r mm) mm k cp).drew fun e w' => e = .returned (.tuple #[]) ∧ ∃ nd, w' = w2.drewN nd) :
    Calls Yba.prog 4 #[m, .pointer (some ⟨(r k), 0, none⟩), .pointer none] w fun e w' => e = .returned (.tuple #[]) ∧ ∃ nd, w' = World.drewN (keptLock w2 shb 4 (r k) (some ⟨sl0, 0, none⟩) sc) nd := by
  obtain ⟨v0, l0⟩ := L.lk.c0
  obtain ⟨v1, l1⟩ := L.lk.c1
  obtain ⟨v2, l2⟩ := L.lk.c2
  obtain ⟨v3, l3⟩ := L.lk.c3
  obtain ⟨v4, l4⟩ := L.lk.c4
  exact Unlock.shared_nil_shard m ib (r k) shb rb (r mm) mm k cp (mm : Int) _ w E.hk E.hm (E.ti.ne E.tr (by decide)) ((E.lk k E.hk).ty.ne E.tr (by decide)) (E.ti.ne (E.lk mm (Nat.le_refl _)).ty (by decide)) ((E.lk mm (Nat.le_refl _)).ty.ne E.tr (by decide)) (E.a1 k E.hk) (E.a2 k E.hk) E.a5 E.hc (E.a3 k E.hk) (E.rd mm (Nat.le_refl _)) (E.rd k E.hk) (E.a3 mm (Nat.le_refl _)) (E.tr.frozen k) ((E.lk mm (Nat.le_refl _)).ty.frozen 3) (E.tr.frozen mm) (E.ti.frozen 5) E.a7 w2 L.i2 v0 v1 v2 v3 v4 l0 l1 l2 l3 l4 (L.lk.ty.frozen 0) (L.lk.ty.frozen 1) (L.lk.ty.frozen 2) (L.lk.ty.frozen 3) (L.lk.ty.frozen 4) (some ⟨sl0, 0, none⟩) sc L.sc0 L.s5 L.s7 (L.tsh.frozen 5) (L.tsh.frozen 7) (L.lk.ty.ne L.tsh (by decide)) hroom hf

theorem shared_keep' (m : Value) {w w2 : World} {ib rb mm k cp shb sl0 : Nat} {r : Nat → Nat} {sc : Int} (E : Shar w ib rb mm k cp r) (L : LPre w2 ib (r k) shb sl0 sc) {kb kl0 : Nat} {kc : Int} (KP : KPre w2 kb kl0 kc) (hroom : kc < 64)
    (hf : Calls Yba.prog 8 #[.pointer (some ⟨ib, 0, none⟩), .pointer (some ⟨kb, 0, none⟩)] (dropW w ib rb (r mm) mm k cp).drew fun e w' => e = .returned (.tuple #[]) ∧ ∃ nd, w' = w2.drewN nd) :
    Calls Yba.prog 4 #[m, .pointer (some ⟨(r k), 0, none⟩), .pointer (some ⟨kb, 0, none⟩)] w fun e w' => e = .returned (.tuple #[]) ∧ ∃ nd, w' = World.drewN (keptLock w2 kb 0 (r k) (some ⟨kl0, 0, none⟩) kc) nd := by
  obtain ⟨v0, l0⟩ := L.lk.c0
  obtain ⟨v1, l1⟩ := L.lk.c1
  obtain ⟨v2, l2⟩ := L.lk.c2
  obtain ⟨v3, l3⟩ := L.lk.c3
  obtain ⟨v4, l4⟩ := L.lk.c4
  exact Unlock.shared_keep m ib (r k) shb rb (r mm) mm k cp (mm : Int) _ w E.hk E.hm (E.ti.ne E.tr (by decide)) ((E.lk k E.hk).ty.ne E.tr (by decide)) (E.ti.ne (E.lk mm (Nat.le_refl _)).ty (by decide)) ((E.lk mm (Nat.le_refl _)).ty.ne E.tr (by decide)) (E.a1 k E.hk) (E.a2 k E.hk) E.a5 E.hc (E.a3 k E.hk) (E.rd mm (Nat.le_refl _)) (E.rd k E.hk) (E.a3 mm (Nat.le_refl _)) (E.tr.frozen k) ((E.lk mm (Nat.le_refl _)).ty.frozen 3) (E.tr.frozen mm) (E.ti.frozen 5) E.a7 w2 L.i2 v0 v1 v2 v3 v4 l0 l1 l2 l3 l4 (L.lk.ty.frozen 0) (L.lk.ty.frozen 1) (L.lk.ty.frozen 2) (L.lk.ty.frozen 3) (L.lk.ty.frozen 4) (some ⟨sl0, 0, none⟩) sc L.sc0 L.s5 L.s7 (L.tsh.frozen 5) (L.tsh.frozen 7) (L.lk.ty.ne L.tsh (by decide)) kb (some ⟨kl0, 0, none⟩) kc KP.kc0 KP.k1 KP.k3 (KP.tk.frozen 1) (KP.tk.frozen 3) (L.lk.ty.ne KP.tk (by decide)) hroom hf

theorem shared_full_shard' (m : Value) {w w2 : World} {ib rb mm k cp shb sl0 : Nat} {r : Nat → Nat} {sc : Int} (E : Shar w ib rb mm k cp r) (L : LPre w2 ib (r k) shb sl0 sc) {kb kl0 : Nat} {kc : Int} (KP : KPre w2 kb kl0 kc) (hkfull : 64 ≤ kc) (hroom : sc < 1024)
    (hf : Calls Yba.prog 8 #[.pointer (some ⟨ib, 0, none⟩), .pointer (some ⟨kb, 0, none⟩)] (dropW w ib rb (r mm) mm k cp).drew fun e w' => e = .returned (.tuple #[]) ∧ ∃ nd, w' = w2.drewN nd) :
    Calls Yba.prog 4 #[m, .pointer (some ⟨(r k), 0, none⟩), .pointer (some ⟨kb, 0, none⟩)] w fun e w' => e = .returned (.tuple #[]) ∧ ∃ nd, w' = World.drewN (keptLock w2 shb 4 (r k) (some ⟨sl0, 0, none⟩) sc) nd := by
  obtain ⟨v0, l0⟩ := L.lk.c0
  obtain ⟨v1, l1⟩ := L.lk.c1
  obtain ⟨v2, l2⟩ := L.lk.c2
  obtain ⟨v3, l3⟩ := L.lk.c3
  obtain ⟨v4, l4⟩ := L.lk.c4
  exact Unlock.shared_full_shard m ib (r k) shb rb (r mm) mm k cp (mm : Int) _ w E.hk E.hm (E.ti.ne E.tr (by decide)) ((E.lk k E.hk).ty.ne E.tr (by decide)) (E.ti.ne (E.lk mm (Nat.le_refl _)).ty (by decide)) ((E.lk mm (Nat.le_refl _)).ty.ne E.tr (by decide)) (E.a1 k E.hk) (E.a2 k E.hk) E.a5 E.hc (E.a3 k E.hk) (E.rd mm (Nat.le_refl _)) (E.rd k E.hk) (E.a3 mm (Nat.le_refl _)) (E.tr.frozen k) ((E.lk mm (Nat.le_refl _)).ty.frozen 3) (E.tr.frozen mm) (E.ti.frozen 5) E.a7 w2 L.i2 v0 v1 v2 v3 v4 l0 l1 l2 l3 l4 (L.lk.ty.frozen 0) (L.lk.ty.frozen 1) (L.lk.ty.frozen 2) (L.lk.ty.frozen 3) (L.lk.ty.frozen 4) (some ⟨sl0, 0, none⟩) sc L.sc0 L.s5 L.s7 (L.tsh.frozen 5) (L.tsh.frozen 7) (L.lk.ty.ne L.tsh (by decide)) kb (some ⟨kl0, 0, none⟩) kc KP.kc0 KP.k1 KP.k3 (KP.tk.frozen 1) (KP.tk.frozen 3) (L.lk.ty.ne KP.tk (by decide)) hkfull hroom hf

theorem shared_full_none' (m : Value) {w w2 : World} {ib rb mm k cp shb sl0 : Nat} {r : Nat → Nat} {sc : Int} (E : Shar w ib rb mm k cp r) (L : LPre w2 ib (r k) shb sl0 sc) {kb kl0 : Nat} {kc : Int} (KP : KPre w2 kb kl0 kc) (hkfull : 64 ≤ kc) (hfull : 1024 ≤ sc)
    (hf : Calls Yba.prog 8 #[.pointer (some ⟨ib, 0, none⟩), .pointer (some ⟨kb, 0, none⟩)] (dropW w ib rb (r mm) mm k cp).drew fun e w' => e = .returned (.tuple #[]) ∧ ∃ nd, w' = w2.drewN nd) :
    Calls Yba.prog 4 #[m, .pointer (some ⟨(r k), 0, none⟩), .pointer (some ⟨kb, 0, none⟩)] w fun e w' => e = .returned (.tuple #[]) ∧ ∃ nd, w' = World.drewN (w2) nd := by
  obtain ⟨v0, l0⟩ := L.lk.c0
  obtain ⟨v1, l1⟩ := L.lk.c1
  obtain ⟨v2, l2⟩ := L.lk.c2
  obtain ⟨v3, l3⟩ := L.lk.c3
  obtain ⟨v4, l4⟩ := L.lk.c4
  exact Unlock.shared_full_none m ib (r k) shb rb (r mm) mm k cp (mm : Int) _ w E.hk E.hm (E.ti.ne E.tr (by decide)) ((E.lk k E.hk).ty.ne E.tr (by decide)) (E.ti.ne (E.lk mm (Nat.le_refl _)).ty (by decide)) ((E.lk mm (Nat.le_refl _)).ty.ne E.tr (by decide)) (E.a1 k E.hk) (E.a2 k E.hk) E.a5 E.hc (E.a3 k E.hk) (E.rd mm (Nat.le_refl _)) (E.rd k E.hk) (E.a3 mm (Nat.le_refl _)) (E.tr.frozen k) ((E.lk mm (Nat.le_refl _)).ty.frozen 3) (E.tr.frozen mm) (E.ti.frozen 5) E.a7 w2 L.i2 v0 v1 v2 v3 v4 l0 l1 l2 l3 l4 (L.lk.ty.frozen 0) (L.lk.ty.frozen 1) (L.lk.ty.frozen 2) (L.lk.ty.frozen 3) (L.lk.ty.frozen 4) (some ⟨sl0, 0, none⟩) sc L.sc0 L.s5 L.s7 (L.tsh.frozen 5) (L.tsh.frozen 7) (L.lk.ty.ne L.tsh (by decide)) kb (some ⟨kl0, 0, none⟩) kc KP.kc0 KP.k1 KP.k3 (KP.tk.frozen 1) (KP.tk.frozen 3) (L.lk.ty.ne KP.tk (by decide)) hkfull hfull hf

theorem forget_nil_none {w : World} {bb shb ib chb no p s : Nat} {c : Nat → Nat} {h sc : Int} {si0 sl0 : Nat} (C : Common w bb shb ib chb no p s c h sc si0 sl0) {ad : Option Addr} {cp : Nat}
    (i4 : w.cell? ⟨ib, 4, none⟩ = some (.pointer none)) (i5 : w.cell? ⟨ib, 5, none⟩ = some (.slice ad 0 cp)) (hfull : 1024 ≤ sc) :
    Calls Yba.prog 8 #[.pointer (some ⟨ib, 0, none⟩), .pointer none] w fun e w' => e = .returned (.tuple #[]) ∧ ∃ nd, w' = World.drewN (goneW w (lkB bb c p) (lkO s p) (nxt c no p) shb ((no : Int) + 1)) nd := by
  obtain ⟨ky, i0⟩ := C.i0
  have hno := C.hno
  have i3 := C.links p C.hp
  rw [C.cp] at i3
  exact Forget.gone_nil_none ib shb bb p c (lkB bb c) (lkO s) cp ad h (nxt c no p) (some ⟨si0, 0, none⟩) ky ((no : Int) + 1) sc w C.h0 C.h1 (by omega) (by omega) C.sc0 i0 C.i1 C.i2 i3 i4 i5 C.i7 (C.ti.frozen 0) (C.ti.frozen 3)
    C.s2 C.s3 (C.tsh.frozen 3) C.s4 C.s6 (C.tsh.frozen 4) (C.tsh.frozen 6) ⟨rfl, C.hs⟩ (fun i => ⟨rfl, rfl⟩) (fun i hi => C.lk_cell hi) C.cp (fun i hi => C.cne (by have := C.hp; omega) (by omega))
    (fun i hi => by obtain ⟨cs, hcs⟩ := C.tc i (by have := C.hp; omega); exact ⟨cs, 47, hcs⟩) (C.lk_frozen _) (C.lk_ne C.tsh (by decide) (by decide)) C.lk_ib (C.ti.ne C.tsh (by decide)) hfull

theorem forget_nil_shard {w : World} {bb shb ib chb no p s : Nat} {c : Nat → Nat} {h sc : Int} {si0 sl0 : Nat} (C : Common w bb shb ib chb no p s c h sc si0 sl0) {ad : Option Addr} {cp : Nat}
    (i4 : w.cell? ⟨ib, 4, none⟩ = some (.pointer none)) (i5 : w.cell? ⟨ib, 5, none⟩ = some (.slice ad 0 cp)) (hroom : sc < 1024) :
    Calls Yba.prog 8 #[.pointer (some ⟨ib, 0, none⟩), .pointer none] w fun e w' => e = .returned (.tuple #[]) ∧ ∃ nd, w' = World.drewN (keptItem (goneW w (lkB bb c p) (lkO s p) (nxt c no p) shb ((no : Int) + 1)) shb 4 ib (some ⟨si0, 0, none⟩) sc) nd := by
  obtain ⟨ky, i0⟩ := C.i0
  have hno := C.hno
  have i3 := C.links p C.hp
  rw [C.cp] at i3
  exact Forget.gone_nil_shard ib shb bb p c (lkB bb c) (lkO s) cp ad h (nxt c no p) (some ⟨si0, 0, none⟩) ky ((no : Int) + 1) sc w C.h0 C.h1 (by omega) (by omega) C.sc0 i0 C.i1 C.i2 i3 i4 i5 C.i7 (C.ti.frozen 0) (C.ti.frozen 3)
    C.s2 C.s3 (C.tsh.frozen 3) C.s4 C.s6 (C.tsh.frozen 4) (C.tsh.frozen 6) ⟨rfl, C.hs⟩ (fun i => ⟨rfl, rfl⟩) (fun i hi => C.lk_cell hi) C.cp (fun i hi => C.cne (by have := C.hp; omega) (by omega))
    (fun i hi => by obtain ⟨cs, hcs⟩ := C.tc i (by have := C.hp; omega); exact ⟨cs, 47, hcs⟩) (C.lk_frozen _) (C.lk_ne C.tsh (by decide) (by decide)) C.lk_ib (C.ti.ne C.tsh (by decide)) hroom

theorem forget_keep {w : World} {bb shb ib chb no p s : Nat} {c : Nat → Nat} {h sc : Int} {si0 sl0 : Nat} (C : Common w bb shb ib chb no p s c h sc si0 sl0) {ad : Option Addr} {cp : Nat}
    (i4 : w.cell? ⟨ib, 4, none⟩ = some (.pointer none)) (i5 : w.cell? ⟨ib, 5, none⟩ = some (.slice ad 0 cp)) {kb ki0 : Nat} {kc : Int} (kc0 : 0 ≤ kc) (tk : Ty w kb 36) (k0 : w.cell? ⟨kb, 0, none⟩ = some (.pointer (some ⟨ki0, 0, none⟩))) (k2 : w.cell? ⟨kb, 2, none⟩ = some (.int .i32 kc)) (hroom : kc < 64) :
    Calls Yba.prog 8 #[.pointer (some ⟨ib, 0, none⟩), .pointer (some ⟨kb, 0, none⟩)] w fun e w' => e = .returned (.tuple #[]) ∧ ∃ nd, w' = World.drewN (keptItem (goneW w (lkB bb c p) (lkO s p) (nxt c no p) shb ((no : Int) + 1)) kb 0 ib (some ⟨ki0, 0, none⟩) kc) nd := by
  obtain ⟨ky, i0⟩ := C.i0
  have hno := C.hno
  have i3 := C.links p C.hp
  rw [C.cp] at i3
  exact Forget.gone_keep ib shb bb p c (lkB bb c) (lkO s) cp ad h (nxt c no p) (some ⟨si0, 0, none⟩) ky ((no : Int) + 1) sc w C.h0 C.h1 (by omega) (by omega) C.sc0 i0 C.i1 C.i2 i3 i4 i5 C.i7 (C.ti.frozen 0) (C.ti.frozen 3)
    C.s2 C.s3 (C.tsh.frozen 3) C.s4 C.s6 (C.tsh.frozen 4) (C.tsh.frozen 6) ⟨rfl, C.hs⟩ (fun i => ⟨rfl, rfl⟩) (fun i hi => C.lk_cell hi) C.cp (fun i hi => C.cne (by have := C.hp; omega) (by omega))
    (fun i hi => by obtain ⟨cs, hcs⟩ := C.tc i (by have := C.hp; omega); exact ⟨cs, 47, hcs⟩) (C.lk_frozen _) (C.lk_ne C.tsh (by decide) (by decide)) C.lk_ib (C.ti.ne C.tsh (by decide)) kb (some ⟨ki0, 0, none⟩) kc kc0 k0 k2 (tk.frozen 0) (tk.frozen 2) (C.ti.ne tk (by decide)) (tk.ne C.tsh (by decide)) (C.lk_ne tk (by decide) (by decide)) hroom

theorem forget_full_shard {w : World} {bb shb ib chb no p s : Nat} {c : Nat → Nat} {h sc : Int} {si0 sl0 : Nat} (C : Common w bb shb ib chb no p s c h sc si0 sl0) {ad : Option Addr} {cp : Nat}
    (i4 : w.cell? ⟨ib, 4, none⟩ = some (.pointer none)) (i5 : w.cell? ⟨ib, 5, none⟩ = some (.slice ad 0 cp)) {kb ki0 : Nat} {kc : Int} (kc0 : 0 ≤ kc) (tk : Ty w kb 36) (k0 : w.cell? ⟨kb, 0, none⟩ = some (.pointer (some ⟨ki0, 0, none⟩))) (k2 : w.cell? ⟨kb, 2, none⟩ = some (.int .i32 kc)) (hkfull : 64 ≤ kc) (hroom : sc < 1024) :
    Calls Yba.prog 8 #[.pointer (some ⟨ib, 0, none⟩), .pointer (some ⟨kb, 0, none⟩)] w fun e w' => e = .returned (.tuple #[]) ∧ ∃ nd, w' = World.drewN (keptItem (goneW w (lkB bb c p) (lkO s p) (nxt c no p) shb ((no : Int) + 1)) shb 4 ib (some ⟨si0, 0, none⟩) sc) nd := by
  obtain ⟨ky, i0⟩ := C.i0
  have hno := C.hno
  have i3 := C.links p C.hp
  rw [C.cp] at i3
  exact Forget.gone_full_shard ib shb bb p c (lkB bb c) (lkO s) cp ad h (nxt c no p) (some ⟨si0, 0, none⟩) ky ((no : Int) + 1) sc w C.h0 C.h1 (by omega) (by omega) C.sc0 i0 C.i1 C.i2 i3 i4 i5 C.i7 (C.ti.frozen 0) (C.ti.frozen 3)
    C.s2 C.s3 (C.tsh.frozen 3) C.s4 C.s6 (C.tsh.frozen 4) (C.tsh.frozen 6) ⟨rfl, C.hs⟩ (fun i => ⟨rfl, rfl⟩) (fun i hi => C.lk_cell hi) C.cp (fun i hi => C.cne (by have := C.hp; omega) (by omega))
    (fun i hi => by obtain ⟨cs, hcs⟩ := C.tc i (by have := C.hp; omega); exact ⟨cs, 47, hcs⟩) (C.lk_frozen _) (C.lk_ne C.tsh (by decide) (by decide)) C.lk_ib (C.ti.ne C.tsh (by decide)) kb (some ⟨ki0, 0, none⟩) kc kc0 k0 k2 (tk.frozen 0) (tk.frozen 2) (C.ti.ne tk (by decide)) (tk.ne C.tsh (by decide)) (C.lk_ne tk (by decide) (by decide)) hkfull hroom

theorem forget_full_none {w : World} {bb shb ib chb no p s : Nat} {c : Nat → Nat} {h sc : Int} {si0 sl0 : Nat} (C : Common w bb shb ib chb no p s c h sc si0 sl0) {ad : Option Addr} {cp : Nat}
    (i4 : w.cell? ⟨ib, 4, none⟩ = some (.pointer none)) (i5 : w.cell? ⟨ib, 5, none⟩ = some (.slice ad 0 cp)) {kb ki0 : Nat} {kc : Int} (kc0 : 0 ≤ kc) (tk : Ty w kb 36) (k0 : w.cell? ⟨kb, 0, none⟩ = some (.pointer (some ⟨ki0, 0, none⟩))) (k2 : w.cell? ⟨kb, 2, none⟩ = some (.int .i32 kc)) (hkfull : 64 ≤ kc) (hfull : 1024 ≤ sc) :
    Calls Yba.prog 8 #[.pointer (some ⟨ib, 0, none⟩), .pointer (some ⟨kb, 0, none⟩)] w fun e w' => e = .returned (.tuple #[]) ∧ ∃ nd, w' = World.drewN (goneW w (lkB bb c p) (lkO s p) (nxt c no p) shb ((no : Int) + 1)) nd := by
  obtain ⟨ky, i0⟩ := C.i0
  have hno := C.hno
  have i3 := C.links p C.hp
  rw [C.cp] at i3
  exact Forget.gone_full_none ib shb bb p c (lkB bb c) (lkO s) cp ad h (nxt c no p) (some ⟨si0, 0, none⟩) ky ((no : Int) + 1) sc w C.h0 C.h1 (by omega) (by omega) C.sc0 i0 C.i1 C.i2 i3 i4 i5 C.i7 (C.ti.frozen 0) (C.ti.frozen 3)
    C.s2 C.s3 (C.tsh.frozen 3) C.s4 C.s6 (C.tsh.frozen 4) (C.tsh.frozen 6) ⟨rfl, C.hs⟩ (fun i => ⟨rfl, rfl⟩) (fun i hi => C.lk_cell hi) C.cp (fun i hi => C.cne (by have := C.hp; omega) (by omega))
    (fun i hi => by obtain ⟨cs, hcs⟩ := C.tc i (by have := C.hp; omega); exact ⟨cs, 47, hcs⟩) (C.lk_frozen _) (C.lk_ne C.tsh (by decide) (by decide)) C.lk_ib (C.ti.ne C.tsh (by decide)) kb (some ⟨ki0, 0, none⟩) kc kc0 k0 k2 (tk.frozen 0) (tk.frozen 2) (C.ti.ne tk (by decide)) (tk.ne C.tsh (by decide)) (C.lk_ne tk (by decide) (by decide)) hkfull hfull

end Go.Proofs.Ybulkclue.Join
