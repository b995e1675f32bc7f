/- (*Manager).unlock: the writer or the reader is dropped, then the item is forgotten if nobody holds it, then the lock is kept. -/
import Derived.Test.YbulkclueForget
namespace Go.Proofs.Ybulkclue.Unlock
set_option linter.unusedVariables false
open Go.RowKit Go.Proofs.Ybulkclue.Leaves Go.Proofs.Ybulkclue.Forget

set_option maxHeartbeats 1000000 in
theorem excl_nil_none (m : Value) (ib lb shb : Nat) (x : Option Addr) (w : World) (hil : ib ≠ lb)
    (a1 : w.cell? ⟨lb, 1, none⟩ = some (.pointer (some ⟨ib, 0, none⟩))) (a2 : w.cell? ⟨lb, 2, none⟩ = some (.int .u8 2))
    (a4 : w.cell? ⟨ib, 4, none⟩ = some (.pointer x)) (fa4 : w.frozen? ⟨ib, 4, none⟩ = false) (a7 : w.cell? ⟨ib, 7, none⟩ = some (.pointer none))
    (w2 : World) (i2 : w2.cell? ⟨ib, 2, none⟩ = some (.pointer (some ⟨shb, 0, none⟩)))
    (v0 v1 v2 v3 v4 : Value) (l0 : w2.cell? ⟨lb, 0, none⟩ = some v0) (l1 : w2.cell? ⟨lb, 1, none⟩ = some v1) (l2 : w2.cell? ⟨lb, 2, none⟩ = some v2) (l3 : w2.cell? ⟨lb, 3, none⟩ = some v3) (l4 : w2.cell? ⟨lb, 4, none⟩ = some v4)
    (g0 : w2.frozen? ⟨lb, 0, none⟩ = false) (g1 : w2.frozen? ⟨lb, 1, none⟩ = false) (g2 : w2.frozen? ⟨lb, 2, none⟩ = false) (g3 : w2.frozen? ⟨lb, 3, none⟩ = false) (g4 : w2.frozen? ⟨lb, 4, none⟩ = false)
    (sl : Option Addr) (sc : Int) (hsc : 0 ≤ sc) (s5 : w2.cell? ⟨shb, 5, none⟩ = some (.pointer sl)) (s7 : w2.cell? ⟨shb, 7, none⟩ = some (.int .i32 sc)) (fs5 : w2.frozen? ⟨shb, 5, none⟩ = false) (fs7 : w2.frozen? ⟨shb, 7, none⟩ = false) (hls : lb ≠ shb) (hfull : 1024 ≤ sc)
    (hf : Hid (Calls Yba.prog 8 #[.pointer (some ⟨ib, 0, none⟩), .pointer none] (w.setCell ⟨ib, 4, none⟩ (.pointer none)) fun e w' => e = .returned (.tuple #[]) ∧ ∃ nd, w' = w2.drewN nd)) :
    Calls Yba.prog 4 #[m, .pointer (some ⟨lb, 0, none⟩), .pointer none] w fun e w' => e = .returned (.tuple #[]) ∧ ∃ nd, w' = World.drewN (w2) nd := by
  go_enter Yba.func4, Yba.ntmps4
  go_wp2_with (first
    | (go_at_call 7; refine (changed_any _ _ _ (by go_simp)).mono ?_; rintro e wz ⟨rfl, rfl⟩)
    | (go_at_call 8; refine (hf.out).mono ?_; rintro e w5 ⟨rfl, nd, rfl⟩)
    | (go_at_call_of 9 shb; refine (keepLock_no shb 4 _ sc 1024 _ (by go_simp) hfull).mono ?_; rintro e w3 ⟨rfl, rfl⟩))
  exact bodyPost_end (results_none rfl _ _ _) rfl ⟨rfl, nd, rfl⟩

set_option maxHeartbeats 1000000 in
theorem excl_nil_shard (m : Value) (ib lb shb : Nat) (x : Option Addr) (w : World) (hil : ib ≠ lb)
    (a1 : w.cell? ⟨lb, 1, none⟩ = some (.pointer (some ⟨ib, 0, none⟩))) (a2 : w.cell? ⟨lb, 2, none⟩ = some (.int .u8 2))
    (a4 : w.cell? ⟨ib, 4, none⟩ = some (.pointer x)) (fa4 : w.frozen? ⟨ib, 4, none⟩ = false) (a7 : w.cell? ⟨ib, 7, none⟩ = some (.pointer none))
    (w2 : World) (i2 : w2.cell? ⟨ib, 2, none⟩ = some (.pointer (some ⟨shb, 0, none⟩)))
    (v0 v1 v2 v3 v4 : Value) (l0 : w2.cell? ⟨lb, 0, none⟩ = some v0) (l1 : w2.cell? ⟨lb, 1, none⟩ = some v1) (l2 : w2.cell? ⟨lb, 2, none⟩ = some v2) (l3 : w2.cell? ⟨lb, 3, none⟩ = some v3) (l4 : w2.cell? ⟨lb, 4, none⟩ = some v4)
    (g0 : w2.frozen? ⟨lb, 0, none⟩ = false) (g1 : w2.frozen? ⟨lb, 1, none⟩ = false) (g2 : w2.frozen? ⟨lb, 2, none⟩ = false) (g3 : w2.frozen? ⟨lb, 3, none⟩ = false) (g4 : w2.frozen? ⟨lb, 4, none⟩ = false)
    (sl : Option Addr) (sc : Int) (hsc : 0 ≤ sc) (s5 : w2.cell? ⟨shb, 5, none⟩ = some (.pointer sl)) (s7 : w2.cell? ⟨shb, 7, none⟩ = some (.int .i32 sc)) (fs5 : w2.frozen? ⟨shb, 5, none⟩ = false) (fs7 : w2.frozen? ⟨shb, 7, none⟩ = false) (hls : lb ≠ shb) (hroom : sc < 1024)
    (hf : Hid (Calls Yba.prog 8 #[.pointer (some ⟨ib, 0, none⟩), .pointer none] (w.setCell ⟨ib, 4, none⟩ (.pointer none)) fun e w' => e = .returned (.tuple #[]) ∧ ∃ nd, w' = w2.drewN nd)) :
    Calls Yba.prog 4 #[m, .pointer (some ⟨lb, 0, none⟩), .pointer none] w fun e w' => e = .returned (.tuple #[]) ∧ ∃ nd, w' = World.drewN (keptLock w2 shb 4 lb sl sc) nd := by
  go_enter Yba.func4, Yba.ntmps4
  go_wp2_with (first
    | (go_at_call 7; refine (changed_any _ _ _ (by go_simp)).mono ?_; rintro e wz ⟨rfl, rfl⟩)
    | (go_at_call 8; refine (hf.out).mono ?_; rintro e w5 ⟨rfl, nd, rfl⟩)
    | (go_at_call_of 9 shb; refine (keepLock_yes shb 4 lb sc 1024 sl v0 v1 v2 v3 v4 _ hls (by go_simp) (by go_simp) (by go_simp) (by go_simp) (by go_simp) (by go_simp) (by go_simp) (by go_simp) (by go_simp) (by go_simp) (by go_simp) (by go_simp) (by go_simp) (by go_simp) hroom hsc (by omega)).mono ?_; rintro e w3 ⟨rfl, rfl⟩))
  refine bodyPost_end (results_none rfl _ _ _) rfl ⟨rfl, nd, ?_⟩
  rw [keptLock_drewN]

set_option maxHeartbeats 1000000 in
theorem excl_keep (m : Value) (ib lb shb : Nat) (x : Option Addr) (w : World) (hil : ib ≠ lb)
    (a1 : w.cell? ⟨lb, 1, none⟩ = some (.pointer (some ⟨ib, 0, none⟩))) (a2 : w.cell? ⟨lb, 2, none⟩ = some (.int .u8 2))
    (a4 : w.cell? ⟨ib, 4, none⟩ = some (.pointer x)) (fa4 : w.frozen? ⟨ib, 4, none⟩ = false) (a7 : w.cell? ⟨ib, 7, none⟩ = some (.pointer none))
    (w2 : World) (i2 : w2.cell? ⟨ib, 2, none⟩ = some (.pointer (some ⟨shb, 0, none⟩)))
    (v0 v1 v2 v3 v4 : Value) (l0 : w2.cell? ⟨lb, 0, none⟩ = some v0) (l1 : w2.cell? ⟨lb, 1, none⟩ = some v1) (l2 : w2.cell? ⟨lb, 2, none⟩ = some v2) (l3 : w2.cell? ⟨lb, 3, none⟩ = some v3) (l4 : w2.cell? ⟨lb, 4, none⟩ = some v4)
    (g0 : w2.frozen? ⟨lb, 0, none⟩ = false) (g1 : w2.frozen? ⟨lb, 1, none⟩ = false) (g2 : w2.frozen? ⟨lb, 2, none⟩ = false) (g3 : w2.frozen? ⟨lb, 3, none⟩ = false) (g4 : w2.frozen? ⟨lb, 4, none⟩ = false)
    (sl : Option Addr) (sc : Int) (hsc : 0 ≤ sc) (s5 : w2.cell? ⟨shb, 5, none⟩ = some (.pointer sl)) (s7 : w2.cell? ⟨shb, 7, none⟩ = some (.int .i32 sc)) (fs5 : w2.frozen? ⟨shb, 5, none⟩ = false) (fs7 : w2.frozen? ⟨shb, 7, none⟩ = false) (hls : lb ≠ shb)
    (kb : Nat) (kl : Option Addr) (kc : Int) (hkc : 0 ≤ kc) (k1 : w2.cell? ⟨kb, 1, none⟩ = some (.pointer kl)) (k3 : w2.cell? ⟨kb, 3, none⟩ = some (.int .i32 kc)) (fk1 : w2.frozen? ⟨kb, 1, none⟩ = false) (fk3 : w2.frozen? ⟨kb, 3, none⟩ = false) (hlk : lb ≠ kb) (hroom : kc < 64)
    (hf : Hid (Calls Yba.prog 8 #[.pointer (some ⟨ib, 0, none⟩), .pointer (some ⟨kb, 0, none⟩)] (w.setCell ⟨ib, 4, none⟩ (.pointer none)) fun e w' => e = .returned (.tuple #[]) ∧ ∃ nd, w' = w2.drewN nd)) :
    Calls Yba.prog 4 #[m, .pointer (some ⟨lb, 0, none⟩), .pointer (some ⟨kb, 0, none⟩)] w fun e w' => e = .returned (.tuple #[]) ∧ ∃ nd, w' = World.drewN (keptLock w2 kb 0 lb kl kc) nd := by
  go_enter Yba.func4, Yba.ntmps4
  go_wp2_with (first
    | (go_at_call 7; refine (changed_any _ _ _ (by go_simp)).mono ?_; rintro e wz ⟨rfl, rfl⟩)
    | (go_at_call 8; refine (hf.out).mono ?_; rintro e w5 ⟨rfl, nd, rfl⟩)
    | (go_at_call_of 9 kb; refine (keepLock_yes kb 0 lb kc 64 kl v0 v1 v2 v3 v4 _ hlk (by go_simp) (by go_simp) (by go_simp) (by go_simp) (by go_simp) (by go_simp) (by go_simp) (by go_simp) (by go_simp) (by go_simp) (by go_simp) (by go_simp) (by go_simp) (by go_simp) hroom hkc (by omega)).mono ?_; rintro e w3 ⟨rfl, rfl⟩))
  refine bodyPost_end (results_none rfl _ _ _) rfl ⟨rfl, nd, ?_⟩
  rw [keptLock_drewN]

set_option maxHeartbeats 1000000 in
theorem excl_full_shard (m : Value) (ib lb shb : Nat) (x : Option Addr) (w : World) (hil : ib ≠ lb)
    (a1 : w.cell? ⟨lb, 1, none⟩ = some (.pointer (some ⟨ib, 0, none⟩))) (a2 : w.cell? ⟨lb, 2, none⟩ = some (.int .u8 2))
    (a4 : w.cell? ⟨ib, 4, none⟩ = some (.pointer x)) (fa4 : w.frozen? ⟨ib, 4, none⟩ = false) (a7 : w.cell? ⟨ib, 7, none⟩ = some (.pointer none))
    (w2 : World) (i2 : w2.cell? ⟨ib, 2, none⟩ = some (.pointer (some ⟨shb, 0, none⟩)))
    (v0 v1 v2 v3 v4 : Value) (l0 : w2.cell? ⟨lb, 0, none⟩ = some v0) (l1 : w2.cell? ⟨lb, 1, none⟩ = some v1) (l2 : w2.cell? ⟨lb, 2, none⟩ = some v2) (l3 : w2.cell? ⟨lb, 3, none⟩ = some v3) (l4 : w2.cell? ⟨lb, 4, none⟩ = some v4)
    (g0 : w2.frozen? ⟨lb, 0, none⟩ = false) (g1 : w2.frozen? ⟨lb, 1, none⟩ = false) (g2 : w2.frozen? ⟨lb, 2, none⟩ = false) (g3 : w2.frozen? ⟨lb, 3, none⟩ = false) (g4 : w2.frozen? ⟨lb, 4, none⟩ = false)
    (sl : Option Addr) (sc : Int) (hsc : 0 ≤ sc) (s5 : w2.cell? ⟨shb, 5, none⟩ = some (.pointer sl)) (s7 : w2.cell? ⟨shb, 7, none⟩ = some (.int .i32 sc)) (fs5 : w2.frozen? ⟨shb, 5, none⟩ = false) (fs7 : w2.frozen? ⟨shb, 7, none⟩ = false) (hls : lb ≠ shb)
    (kb : Nat) (kl : Option Addr) (kc : Int) (hkc : 0 ≤ kc) (k1 : w2.cell? ⟨kb, 1, none⟩ = some (.pointer kl)) (k3 : w2.cell? ⟨kb, 3, none⟩ = some (.int .i32 kc)) (fk1 : w2.frozen? ⟨kb, 1, none⟩ = false) (fk3 : w2.frozen? ⟨kb, 3, none⟩ = false) (hlk : lb ≠ kb) (hkfull : 64 ≤ kc) (hroom : sc < 1024)
    (hf : Hid (Calls Yba.prog 8 #[.pointer (some ⟨ib, 0, none⟩), .pointer (some ⟨kb, 0, none⟩)] (w.setCell ⟨ib, 4, none⟩ (.pointer none)) fun e w' => e = .returned (.tuple #[]) ∧ ∃ nd, w' = w2.drewN nd)) :
    Calls Yba.prog 4 #[m, .pointer (some ⟨lb, 0, none⟩), .pointer (some ⟨kb, 0, none⟩)] w fun e w' => e = .returned (.tuple #[]) ∧ ∃ nd, w' = World.drewN (keptLock w2 shb 4 lb sl sc) nd := by
  go_enter Yba.func4, Yba.ntmps4
  go_wp2_with (first
    | (go_at_call 7; refine (changed_any _ _ _ (by go_simp)).mono ?_; rintro e wz ⟨rfl, rfl⟩)
    | (go_at_call 8; refine (hf.out).mono ?_; rintro e w5 ⟨rfl, nd, rfl⟩)
    | (go_at_call_of 9 kb; refine (keepLock_no kb 0 _ kc 64 _ (by go_simp) hkfull).mono ?_; rintro e w3 ⟨rfl, rfl⟩)
    | (go_at_call_of 9 shb; refine (keepLock_yes shb 4 lb sc 1024 sl v0 v1 v2 v3 v4 _ hls (by go_simp) (by go_simp) (by go_simp) (by go_simp) (by go_simp) (by go_simp) (by go_simp) (by go_simp) (by go_simp) (by go_simp) (by go_simp) (by go_simp) (by go_simp) (by go_simp) hroom hsc (by omega)).mono ?_; rintro e w3 ⟨rfl, rfl⟩))
  refine bodyPost_end (results_none rfl _ _ _) rfl ⟨rfl, nd, ?_⟩
  rw [keptLock_drewN]

set_option maxHeartbeats 1000000 in
theorem excl_full_none (m : Value) (ib lb shb : Nat) (x : Option Addr) (w : World) (hil : ib ≠ lb)
    (a1 : w.cell? ⟨lb, 1, none⟩ = some (.pointer (some ⟨ib, 0, none⟩))) (a2 : w.cell? ⟨lb, 2, none⟩ = some (.int .u8 2))
    (a4 : w.cell? ⟨ib, 4, none⟩ = some (.pointer x)) (fa4 : w.frozen? ⟨ib, 4, none⟩ = false) (a7 : w.cell? ⟨ib, 7, none⟩ = some (.pointer none))
    (w2 : World) (i2 : w2.cell? ⟨ib, 2, none⟩ = some (.pointer (some ⟨shb, 0, none⟩)))
    (v0 v1 v2 v3 v4 : Value) (l0 : w2.cell? ⟨lb, 0, none⟩ = some v0) (l1 : w2.cell? ⟨lb, 1, none⟩ = some v1) (l2 : w2.cell? ⟨lb, 2, none⟩ = some v2) (l3 : w2.cell? ⟨lb, 3, none⟩ = some v3) (l4 : w2.cell? ⟨lb, 4, none⟩ = some v4)
    (g0 : w2.frozen? ⟨lb, 0, none⟩ = false) (g1 : w2.frozen? ⟨lb, 1, none⟩ = false) (g2 : w2.frozen? ⟨lb, 2, none⟩ = false) (g3 : w2.frozen? ⟨lb, 3, none⟩ = false) (g4 : w2.frozen? ⟨lb, 4, none⟩ = false)
    (sl : Option Addr) (sc : Int) (hsc : 0 ≤ sc) (s5 : w2.cell? ⟨shb, 5, none⟩ = some (.pointer sl)) (s7 : w2.cell? ⟨shb, 7, none⟩ = some (.int .i32 sc)) (fs5 : w2.frozen? ⟨shb, 5, none⟩ = false) (fs7 : w2.frozen? ⟨shb, 7, none⟩ = false) (hls : lb ≠ shb)
    (kb : Nat) (kl : Option Addr) (kc : Int) (hkc : 0 ≤ kc) (k1 : w2.cell? ⟨kb, 1, none⟩ = some (.pointer kl)) (k3 : w2.cell? ⟨kb, 3, none⟩ = some (.int .i32 kc)) (fk1 : w2.frozen? ⟨kb, 1, none⟩ = false) (fk3 : w2.frozen? ⟨kb, 3, none⟩ = false) (hlk : lb ≠ kb) (hkfull : 64 ≤ kc) (hfull : 1024 ≤ sc)
    (hf : Hid (Calls Yba.prog 8 #[.pointer (some ⟨ib, 0, none⟩), .pointer (some ⟨kb, 0, none⟩)] (w.setCell ⟨ib, 4, none⟩ (.pointer none)) fun e w' => e = .returned (.tuple #[]) ∧ ∃ nd, w' = w2.drewN nd)) :
    Calls Yba.prog 4 #[m, .pointer (some ⟨lb, 0, none⟩), .pointer (some ⟨kb, 0, none⟩)] w fun e w' => e = .returned (.tuple #[]) ∧ ∃ nd, w' = World.drewN (w2) nd := by
  go_enter Yba.func4, Yba.ntmps4
  go_wp2_with (first
    | (go_at_call 7; refine (changed_any _ _ _ (by go_simp)).mono ?_; rintro e wz ⟨rfl, rfl⟩)
    | (go_at_call 8; refine (hf.out).mono ?_; rintro e w5 ⟨rfl, nd, rfl⟩)
    | (go_at_call_of 9 kb; refine (keepLock_no kb 0 _ kc 64 _ (by go_simp) hkfull).mono ?_; rintro e w3 ⟨rfl, rfl⟩)
    | (go_at_call_of 9 shb; refine (keepLock_no shb 4 _ sc 1024 _ (by go_simp) hfull).mono ?_; rintro e w3 ⟨rfl, rfl⟩))
  exact bodyPost_end (results_none rfl _ _ _) rfl ⟨rfl, nd, rfl⟩

set_option maxHeartbeats 1000000 in
theorem shared_nil_none (m : Value) (ib lb shb rb mb mm k c : Nat) (q : Int) (x : Value) (w : World) (hk : k ≤ mm) (hm : mm < 8) (hir : ib ≠ rb) (hlr : lb ≠ rb) (him : ib ≠ mb) (hmr : mb ≠ rb)
    (a1 : w.cell? ⟨lb, 1, none⟩ = some (.pointer (some ⟨ib, 0, none⟩))) (a2 : w.cell? ⟨lb, 2, none⟩ = some (.int .u8 1))
    (hr : w.cell? ⟨ib, 5, none⟩ = some (.slice (some ⟨rb, 0, none⟩) (mm + 1) c)) (hc : mm + 1 ≤ c)
    (ha : w.cell? ⟨lb, 3, none⟩ = some (.int .i64 k)) (hl : w.cell? ⟨rb, mm, none⟩ = some (.pointer (some ⟨mb, 0, none⟩)))
    (hk' : w.cell? ⟨rb, k, none⟩ = some x) (hq : w.cell? ⟨mb, 3, none⟩ = some (.int .i64 q))
    (f1 : w.frozen? ⟨rb, k, none⟩ = false) (f2 : w.frozen? ⟨mb, 3, none⟩ = false) (f3 : w.frozen? ⟨rb, mm, none⟩ = false) (f4 : w.frozen? ⟨ib, 5, none⟩ = false) (a7 : w.cell? ⟨ib, 7, none⟩ = some (.pointer none))
    (w2 : World) (i2 : w2.cell? ⟨ib, 2, none⟩ = some (.pointer (some ⟨shb, 0, none⟩)))
    (v0 v1 v2 v3 v4 : Value) (l0 : w2.cell? ⟨lb, 0, none⟩ = some v0) (l1 : w2.cell? ⟨lb, 1, none⟩ = some v1) (l2 : w2.cell? ⟨lb, 2, none⟩ = some v2) (l3 : w2.cell? ⟨lb, 3, none⟩ = some v3) (l4 : w2.cell? ⟨lb, 4, none⟩ = some v4)
    (g0 : w2.frozen? ⟨lb, 0, none⟩ = false) (g1 : w2.frozen? ⟨lb, 1, none⟩ = false) (g2 : w2.frozen? ⟨lb, 2, none⟩ = false) (g3 : w2.frozen? ⟨lb, 3, none⟩ = false) (g4 : w2.frozen? ⟨lb, 4, none⟩ = false)
    (sl : Option Addr) (sc : Int) (hsc : 0 ≤ sc) (s5 : w2.cell? ⟨shb, 5, none⟩ = some (.pointer sl)) (s7 : w2.cell? ⟨shb, 7, none⟩ = some (.int .i32 sc)) (fs5 : w2.frozen? ⟨shb, 5, none⟩ = false) (fs7 : w2.frozen? ⟨shb, 7, none⟩ = false) (hls : lb ≠ shb) (hfull : 1024 ≤ sc)
    (hf : Hid (Calls Yba.prog 8 #[.pointer (some ⟨ib, 0, none⟩), .pointer none] (dropW w ib rb mb mm k c).drew fun e w' => e = .returned (.tuple #[]) ∧ ∃ nd, w' = w2.drewN nd)) :
    Calls Yba.prog 4 #[m, .pointer (some ⟨lb, 0, none⟩), .pointer none] w fun e w' => e = .returned (.tuple #[]) ∧ ∃ nd, w' = World.drewN (w2) nd := by
  go_enter Yba.func4, Yba.ntmps4
  go_wp2_with (first
    | (go_at_call 6; refine (dropReader_any ib lb rb mb mm k c q x _ hk hm hir hlr him hmr hr hc ha hl hk' hq f1 f2 f3 f4).mono ?_; rintro e w4 ⟨rfl, rfl⟩; clear a1 a2 hr ha hl hk' hq f1 f2 f3 f4)
    | (go_at_call 7; refine (changed_any _ _ _ (by rw [World.cell?_drew]; exact dropW_line him hir a7)).mono ?_; rintro e wz ⟨rfl, rfl⟩)
    | (go_at_call 8; refine (hf.out).mono ?_; rintro e w5 ⟨rfl, nd, rfl⟩)
    | (go_at_call_of 9 shb; refine (keepLock_no shb 4 _ sc 1024 _ (by go_simp) hfull).mono ?_; rintro e w3 ⟨rfl, rfl⟩))
  exact bodyPost_end (results_none rfl _ _ _) rfl ⟨rfl, nd, rfl⟩

set_option maxHeartbeats 1000000 in
theorem shared_nil_shard (m : Value) (ib lb shb rb mb mm k c : Nat) (q : Int) (x : Value) (w : World) (hk : k ≤ mm) (hm : mm < 8) (hir : ib ≠ rb) (hlr : lb ≠ rb) (him : ib ≠ mb) (hmr : mb ≠ rb)
    (a1 : w.cell? ⟨lb, 1, none⟩ = some (.pointer (some ⟨ib, 0, none⟩))) (a2 : w.cell? ⟨lb, 2, none⟩ = some (.int .u8 1))
    (hr : w.cell? ⟨ib, 5, none⟩ = some (.slice (some ⟨rb, 0, none⟩) (mm + 1) c)) (hc : mm + 1 ≤ c)
    (ha : w.cell? ⟨lb, 3, none⟩ = some (.int .i64 k)) (hl : w.cell? ⟨rb, mm, none⟩ = some (.pointer (some ⟨mb, 0, none⟩)))
    (hk' : w.cell? ⟨rb, k, none⟩ = some x) (hq : w.cell? ⟨mb, 3, none⟩ = some (.int .i64 q))
    (f1 : w.frozen? ⟨rb, k, none⟩ = false) (f2 : w.frozen? ⟨mb, 3, none⟩ = false) (f3 : w.frozen? ⟨rb, mm, none⟩ = false) (f4 : w.frozen? ⟨ib, 5, none⟩ = false) (a7 : w.cell? ⟨ib, 7, none⟩ = some (.pointer none))
    (w2 : World) (i2 : w2.cell? ⟨ib, 2, none⟩ = some (.pointer (some ⟨shb, 0, none⟩)))
    (v0 v1 v2 v3 v4 : Value) (l0 : w2.cell? ⟨lb, 0, none⟩ = some v0) (l1 : w2.cell? ⟨lb, 1, none⟩ = some v1) (l2 : w2.cell? ⟨lb, 2, none⟩ = some v2) (l3 : w2.cell? ⟨lb, 3, none⟩ = some v3) (l4 : w2.cell? ⟨lb, 4, none⟩ = some v4)
    (g0 : w2.frozen? ⟨lb, 0, none⟩ = false) (g1 : w2.frozen? ⟨lb, 1, none⟩ = false) (g2 : w2.frozen? ⟨lb, 2, none⟩ = false) (g3 : w2.frozen? ⟨lb, 3, none⟩ = false) (g4 : w2.frozen? ⟨lb, 4, none⟩ = false)
    (sl : Option Addr) (sc : Int) (hsc : 0 ≤ sc) (s5 : w2.cell? ⟨shb, 5, none⟩ = some (.pointer sl)) (s7 : w2.cell? ⟨shb, 7, none⟩ = some (.int .i32 sc)) (fs5 : w2.frozen? ⟨shb, 5, none⟩ = false) (fs7 : w2.frozen? ⟨shb, 7, none⟩ = false) (hls : lb ≠ shb) (hroom : sc < 1024)
    (hf : Hid (Calls Yba.prog 8 #[.pointer (some ⟨ib, 0, none⟩), .pointer none] (dropW w ib rb mb mm k c).drew fun e w' => e = .returned (.tuple #[]) ∧ ∃ nd, w' = w2.drewN nd)) :
    Calls Yba.prog 4 #[m, .pointer (some ⟨lb, 0, none⟩), .pointer none] w fun e w' => e = .returned (.tuple #[]) ∧ ∃ nd, w' = World.drewN (keptLock w2 shb 4 lb sl sc) nd := by
  go_enter Yba.func4, Yba.ntmps4
  go_wp2_with (first
    | (go_at_call 6; refine (dropReader_any ib lb rb mb mm k c q x _ hk hm hir hlr him hmr hr hc ha hl hk' hq f1 f2 f3 f4).mono ?_; rintro e w4 ⟨rfl, rfl⟩; clear a1 a2 hr ha hl hk' hq f1 f2 f3 f4)
    | (go_at_call 7; refine (changed_any _ _ _ (by rw [World.cell?_drew]; exact dropW_line him hir a7)).mono ?_; rintro e wz ⟨rfl, rfl⟩)
    | (go_at_call 8; refine (hf.out).mono ?_; rintro e w5 ⟨rfl, nd, rfl⟩)
    | (go_at_call_of 9 shb; refine (keepLock_yes shb 4 lb sc 1024 sl v0 v1 v2 v3 v4 _ hls (by go_simp) (by go_simp) (by go_simp) (by go_simp) (by go_simp) (by go_simp) (by go_simp) (by go_simp) (by go_simp) (by go_simp) (by go_simp) (by go_simp) (by go_simp) (by go_simp) hroom hsc (by omega)).mono ?_; rintro e w3 ⟨rfl, rfl⟩))
  refine bodyPost_end (results_none rfl _ _ _) rfl ⟨rfl, nd, ?_⟩
  rw [keptLock_drewN]

set_option maxHeartbeats 1000000 in
theorem shared_keep (m : Value) (ib lb shb rb mb mm k c : Nat) (q : Int) (x : Value) (w : World) (hk : k ≤ mm) (hm : mm < 8) (hir : ib ≠ rb) (hlr : lb ≠ rb) (him : ib ≠ mb) (hmr : mb ≠ rb)
    (a1 : w.cell? ⟨lb, 1, none⟩ = some (.pointer (some ⟨ib, 0, none⟩))) (a2 : w.cell? ⟨lb, 2, none⟩ = some (.int .u8 1))
    (hr : w.cell? ⟨ib, 5, none⟩ = some (.slice (some ⟨rb, 0, none⟩) (mm + 1) c)) (hc : mm + 1 ≤ c)
    (ha : w.cell? ⟨lb, 3, none⟩ = some (.int .i64 k)) (hl : w.cell? ⟨rb, mm, none⟩ = some (.pointer (some ⟨mb, 0, none⟩)))
    (hk' : w.cell? ⟨rb, k, none⟩ = some x) (hq : w.cell? ⟨mb, 3, none⟩ = some (.int .i64 q))
    (f1 : w.frozen? ⟨rb, k, none⟩ = false) (f2 : w.frozen? ⟨mb, 3, none⟩ = false) (f3 : w.frozen? ⟨rb, mm, none⟩ = false) (f4 : w.frozen? ⟨ib, 5, none⟩ = false) (a7 : w.cell? ⟨ib, 7, none⟩ = some (.pointer none))
    (w2 : World) (i2 : w2.cell? ⟨ib, 2, none⟩ = some (.pointer (some ⟨shb, 0, none⟩)))
    (v0 v1 v2 v3 v4 : Value) (l0 : w2.cell? ⟨lb, 0, none⟩ = some v0) (l1 : w2.cell? ⟨lb, 1, none⟩ = some v1) (l2 : w2.cell? ⟨lb, 2, none⟩ = some v2) (l3 : w2.cell? ⟨lb, 3, none⟩ = some v3) (l4 : w2.cell? ⟨lb, 4, none⟩ = some v4)
    (g0 : w2.frozen? ⟨lb, 0, none⟩ = false) (g1 : w2.frozen? ⟨lb, 1, none⟩ = false) (g2 : w2.frozen? ⟨lb, 2, none⟩ = false) (g3 : w2.frozen? ⟨lb, 3, none⟩ = false) (g4 : w2.frozen? ⟨lb, 4, none⟩ = false)
    (sl : Option Addr) (sc : Int) (hsc : 0 ≤ sc) (s5 : w2.cell? ⟨shb, 5, none⟩ = some (.pointer sl)) (s7 : w2.cell? ⟨shb, 7, none⟩ = some (.int .i32 sc)) (fs5 : w2.frozen? ⟨shb, 5, none⟩ = false) (fs7 : w2.frozen? ⟨shb, 7, none⟩ = false) (hls : lb ≠ shb)
    (kb : Nat) (kl : Option Addr) (kc : Int) (hkc : 0 ≤ kc) (k1 : w2.cell? ⟨kb, 1, none⟩ = some (.pointer kl)) (k3 : w2.cell? ⟨kb, 3, none⟩ = some (.int .i32 kc)) (fk1 : w2.frozen? ⟨kb, 1, none⟩ = false) (fk3 : w2.frozen? ⟨kb, 3, none⟩ = false) (hlk : lb ≠ kb) (hroom : kc < 64)
    (hf : Hid (Calls Yba.prog 8 #[.pointer (some ⟨ib, 0, none⟩), .pointer (some ⟨kb, 0, none⟩)] (dropW w ib rb mb mm k c).drew fun e w' => e = .returned (.tuple #[]) ∧ ∃ nd, w' = w2.drewN nd)) :
    Calls Yba.prog 4 #[m, .pointer (some ⟨lb, 0, none⟩), .pointer (some ⟨kb, 0, none⟩)] w fun e w' => e = .returned (.tuple #[]) ∧ ∃ nd, w' = World.drewN (keptLock w2 kb 0 lb kl kc) nd := by
  go_enter Yba.func4, Yba.ntmps4
  go_wp2_with (first
    | (go_at_call 6; refine (dropReader_any ib lb rb mb mm k c q x _ hk hm hir hlr him hmr hr hc ha hl hk' hq f1 f2 f3 f4).mono ?_; rintro e w4 ⟨rfl, rfl⟩; clear a1 a2 hr ha hl hk' hq f1 f2 f3 f4)
    | (go_at_call 7; refine (changed_any _ _ _ (by rw [World.cell?_drew]; exact dropW_line him hir a7)).mono ?_; rintro e wz ⟨rfl, rfl⟩)
    | (go_at_call 8; refine (hf.out).mono ?_; rintro e w5 ⟨rfl, nd, rfl⟩)
    | (go_at_call_of 9 kb; refine (keepLock_yes kb 0 lb kc 64 kl v0 v1 v2 v3 v4 _ hlk (by go_simp) (by go_simp) (by go_simp) (by go_simp) (by go_simp) (by go_simp) (by go_simp) (by go_simp) (by go_simp) (by go_simp) (by go_simp) (by go_simp) (by go_simp) (by go_simp) hroom hkc (by omega)).mono ?_; rintro e w3 ⟨rfl, rfl⟩))
  refine bodyPost_end (results_none rfl _ _ _) rfl ⟨rfl, nd, ?_⟩
  rw [keptLock_drewN]

set_option maxHeartbeats 1000000 in
theorem shared_full_shard (m : Value) (ib lb shb rb mb mm k c : Nat) (q : Int) (x : Value) (w : World) (hk : k ≤ mm) (hm : mm < 8) (hir : ib ≠ rb) (hlr : lb ≠ rb) (him : ib ≠ mb) (hmr : mb ≠ rb)
    (a1 : w.cell? ⟨lb, 1, none⟩ = some (.pointer (some ⟨ib, 0, none⟩))) (a2 : w.cell? ⟨lb, 2, none⟩ = some (.int .u8 1))
    (hr : w.cell? ⟨ib, 5, none⟩ = some (.slice (some ⟨rb, 0, none⟩) (mm + 1) c)) (hc : mm + 1 ≤ c)
    (ha : w.cell? ⟨lb, 3, none⟩ = some (.int .i64 k)) (hl : w.cell? ⟨rb, mm, none⟩ = some (.pointer (some ⟨mb, 0, none⟩)))
    (hk' : w.cell? ⟨rb, k, none⟩ = some x) (hq : w.cell? ⟨mb, 3, none⟩ = some (.int .i64 q))
    (f1 : w.frozen? ⟨rb, k, none⟩ = false) (f2 : w.frozen? ⟨mb, 3, none⟩ = false) (f3 : w.frozen? ⟨rb, mm, none⟩ = false) (f4 : w.frozen? ⟨ib, 5, none⟩ = false) (a7 : w.cell? ⟨ib, 7, none⟩ = some (.pointer none))
    (w2 : World) (i2 : w2.cell? ⟨ib, 2, none⟩ = some (.pointer (some ⟨shb, 0, none⟩)))
    (v0 v1 v2 v3 v4 : Value) (l0 : w2.cell? ⟨lb, 0, none⟩ = some v0) (l1 : w2.cell? ⟨lb, 1, none⟩ = some v1) (l2 : w2.cell? ⟨lb, 2, none⟩ = some v2) (l3 : w2.cell? ⟨lb, 3, none⟩ = some v3) (l4 : w2.cell? ⟨lb, 4, none⟩ = some v4)
    (g0 : w2.frozen? ⟨lb, 0, none⟩ = false) (g1 : w2.frozen? ⟨lb, 1, none⟩ = false) (g2 : w2.frozen? ⟨lb, 2, none⟩ = false) (g3 : w2.frozen? ⟨lb, 3, none⟩ = false) (g4 : w2.frozen? ⟨lb, 4, none⟩ = false)
    (sl : Option Addr) (sc : Int) (hsc : 0 ≤ sc) (s5 : w2.cell? ⟨shb, 5, none⟩ = some (.pointer sl)) (s7 : w2.cell? ⟨shb, 7, none⟩ = some (.int .i32 sc)) (fs5 : w2.frozen? ⟨shb, 5, none⟩ = false) (fs7 : w2.frozen? ⟨shb, 7, none⟩ = false) (hls : lb ≠ shb)
    (kb : Nat) (kl : Option Addr) (kc : Int) (hkc : 0 ≤ kc) (k1 : w2.cell? ⟨kb, 1, none⟩ = some (.pointer kl)) (k3 : w2.cell? ⟨kb, 3, none⟩ = some (.int .i32 kc)) (fk1 : w2.frozen? ⟨kb, 1, none⟩ = false) (fk3 : w2.frozen? ⟨kb, 3, none⟩ = false) (hlk : lb ≠ kb) (hkfull : 64 ≤ kc) (hroom : sc < 1024)
    (hf : Hid (Calls Yba.prog 8 #[.pointer (some ⟨ib, 0, none⟩), .pointer (some ⟨kb, 0, none⟩)] (dropW w ib rb mb mm k c).drew fun e w' => e = .returned (.tuple #[]) ∧ ∃ nd, w' = w2.drewN nd)) :
    Calls Yba.prog 4 #[m, .pointer (some ⟨lb, 0, none⟩), .pointer (some ⟨kb, 0, none⟩)] w fun e w' => e = .returned (.tuple #[]) ∧ ∃ nd, w' = World.drewN (keptLock w2 shb 4 lb sl sc) nd := by
  go_enter Yba.func4, Yba.ntmps4
  go_wp2_with (first
    | (go_at_call 6; refine (dropReader_any ib lb rb mb mm k c q x _ hk hm hir hlr him hmr hr hc ha hl hk' hq f1 f2 f3 f4).mono ?_; rintro e w4 ⟨rfl, rfl⟩; clear a1 a2 hr ha hl hk' hq f1 f2 f3 f4)
    | (go_at_call 7; refine (changed_any _ _ _ (by rw [World.cell?_drew]; exact dropW_line him hir a7)).mono ?_; rintro e wz ⟨rfl, rfl⟩)
    | (go_at_call 8; refine (hf.out).mono ?_; rintro e w5 ⟨rfl, nd, rfl⟩)
    | (go_at_call_of 9 kb; refine (keepLock_no kb 0 _ kc 64 _ (by go_simp) hkfull).mono ?_; rintro e w3 ⟨rfl, rfl⟩)
    | (go_at_call_of 9 shb; refine (keepLock_yes shb 4 lb sc 1024 sl v0 v1 v2 v3 v4 _ hls (by go_simp) (by go_simp) (by go_simp) (by go_simp) (by go_simp) (by go_simp) (by go_simp) (by go_simp) (by go_simp) (by go_simp) (by go_simp) (by go_simp) (by go_simp) (by go_simp) hroom hsc (by omega)).mono ?_; rintro e w3 ⟨rfl, rfl⟩))
  refine bodyPost_end (results_none rfl _ _ _) rfl ⟨rfl, nd, ?_⟩
  rw [keptLock_drewN]

set_option maxHeartbeats 1000000 in
theorem shared_full_none (m : Value) (ib lb shb rb mb mm k c : Nat) (q : Int) (x : Value) (w : World) (hk : k ≤ mm) (hm : mm < 8) (hir : ib ≠ rb) (hlr : lb ≠ rb) (him : ib ≠ mb) (hmr : mb ≠ rb)
    (a1 : w.cell? ⟨lb, 1, none⟩ = some (.pointer (some ⟨ib, 0, none⟩))) (a2 : w.cell? ⟨lb, 2, none⟩ = some (.int .u8 1))
    (hr : w.cell? ⟨ib, 5, none⟩ = some (.slice (some ⟨rb, 0, none⟩) (mm + 1) c)) (hc : mm + 1 ≤ c)
    (ha : w.cell? ⟨lb, 3, none⟩ = some (.int .i64 k)) (hl : w.cell? ⟨rb, mm, none⟩ = some (.pointer (some ⟨mb, 0, none⟩)))
    (hk' : w.cell? ⟨rb, k, none⟩ = some x) (hq : w.cell? ⟨mb, 3, none⟩ = some (.int .i64 q))
    (f1 : w.frozen? ⟨rb, k, none⟩ = false) (f2 : w.frozen? ⟨mb, 3, none⟩ = false) (f3 : w.frozen? ⟨rb, mm, none⟩ = false) (f4 : w.frozen? ⟨ib, 5, none⟩ = false) (a7 : w.cell? ⟨ib, 7, none⟩ = some (.pointer none))
    (w2 : World) (i2 : w2.cell? ⟨ib, 2, none⟩ = some (.pointer (some ⟨shb, 0, none⟩)))
    (v0 v1 v2 v3 v4 : Value) (l0 : w2.cell? ⟨lb, 0, none⟩ = some v0) (l1 : w2.cell? ⟨lb, 1, none⟩ = some v1) (l2 : w2.cell? ⟨lb, 2, none⟩ = some v2) (l3 : w2.cell? ⟨lb, 3, none⟩ = some v3) (l4 : w2.cell? ⟨lb, 4, none⟩ = some v4)
    (g0 : w2.frozen? ⟨lb, 0, none⟩ = false) (g1 : w2.frozen? ⟨lb, 1, none⟩ = false) (g2 : w2.frozen? ⟨lb, 2, none⟩ = false) (g3 : w2.frozen? ⟨lb, 3, none⟩ = false) (g4 : w2.frozen? ⟨lb, 4, none⟩ = false)
    (sl : Option Addr) (sc : Int) (hsc : 0 ≤ sc) (s5 : w2.cell? ⟨shb, 5, none⟩ = some (.pointer sl)) (s7 : w2.cell? ⟨shb, 7, none⟩ = some (.int .i32 sc)) (fs5 : w2.frozen? ⟨shb, 5, none⟩ = false) (fs7 : w2.frozen? ⟨shb, 7, none⟩ = false) (hls : lb ≠ shb)
    (kb : Nat) (kl : Option Addr) (kc : Int) (hkc : 0 ≤ kc) (k1 : w2.cell? ⟨kb, 1, none⟩ = some (.pointer kl)) (k3 : w2.cell? ⟨kb, 3, none⟩ = some (.int .i32 kc)) (fk1 : w2.frozen? ⟨kb, 1, none⟩ = false) (fk3 : w2.frozen? ⟨kb, 3, none⟩ = false) (hlk : lb ≠ kb) (hkfull : 64 ≤ kc) (hfull : 1024 ≤ sc)
    (hf : Hid (Calls Yba.prog 8 #[.pointer (some ⟨ib, 0, none⟩), .pointer (some ⟨kb, 0, none⟩)] (dropW w ib rb mb mm k c).drew fun e w' => e = .returned (.tuple #[]) ∧ ∃ nd, w' = w2.drewN nd)) :
    Calls Yba.prog 4 #[m, .pointer (some ⟨lb, 0, none⟩), .pointer (some ⟨kb, 0, none⟩)] w fun e w' => e = .returned (.tuple #[]) ∧ ∃ nd, w' = World.drewN (w2) nd := by
  go_enter Yba.func4, Yba.ntmps4
  go_wp2_with (first
    | (go_at_call 6; refine (dropReader_any ib lb rb mb mm k c q x _ hk hm hir hlr him hmr hr hc ha hl hk' hq f1 f2 f3 f4).mono ?_; rintro e w4 ⟨rfl, rfl⟩; clear a1 a2 hr ha hl hk' hq f1 f2 f3 f4)
    | (go_at_call 7; refine (changed_any _ _ _ (by rw [World.cell?_drew]; exact dropW_line him hir a7)).mono ?_; rintro e wz ⟨rfl, rfl⟩)
    | (go_at_call 8; refine (hf.out).mono ?_; rintro e w5 ⟨rfl, nd, rfl⟩)
    | (go_at_call_of 9 kb; refine (keepLock_no kb 0 _ kc 64 _ (by go_simp) hkfull).mono ?_; rintro e w3 ⟨rfl, rfl⟩)
    | (go_at_call_of 9 shb; refine (keepLock_no shb 4 _ sc 1024 _ (by go_simp) hfull).mono ?_; rintro e w3 ⟨rfl, rfl⟩))
  exact bodyPost_end (results_none rfl _ _ _) rfl ⟨rfl, nd, rfl⟩

end Go.Proofs.Ybulkclue.Unlock
