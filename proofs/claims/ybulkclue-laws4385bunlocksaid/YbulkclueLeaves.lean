/- The contracts of the small functions under unlock: each leaves a world that is written out. -/
import Derived.Test.YbulkclueRows
import Derived.WalkKit
import Derived.LaidEqlPtr
import Derived.BigQuiet
import Derived.Deep.QuietTactic
import Derived.WalkSmall
import Derived.RegionTactic
namespace Go.Proofs.Ybulkclue.Leaves
open Go.RowKit

/-- (*line).empty of a line without a head. -/
theorem empty_any (b o : Nat) (w : World) (h : w.cell? ⟨b, o, none⟩ = some (.pointer none)) :
    Calls Yba.prog 14 #[.pointer (some ⟨b, o, none⟩)] w fun e w' => e = .returned (.bool true) ∧ w' = w := by
  go_enter Yba.func14, Yba.ntmps14
  go_wp2
  go_ret
  exact ⟨rfl, rfl⟩

/-- (*Manager).changed of an item whose line is empty: nothing. -/
theorem changed_any (m : Value) (b : Nat) (w : World) (h : w.cell? ⟨b, 7, none⟩ = some (.pointer none)) :
    Calls Yba.prog 7 #[m, .pointer (some ⟨b, 0, none⟩)] w fun e w' => e = .returned (.tuple #[]) ∧ w' = w := by
  go_enter Yba.func7, Yba.ntmps7
  go_wp2
  exact bodyPost_ret (results_none rfl _ _ _) rfl ⟨rfl, rfl⟩

theorem keepItem_no (sb so ib : Nat) (n mx : Int) (w : World) (hn : w.cell? ⟨sb, so + 2, none⟩ = some (.int .i32 n)) (h : mx ≤ n) :
    Calls Yba.prog 16 #[.pointer (some ⟨sb, so, none⟩), .pointer (some ⟨ib, 0, none⟩), .int .i32 mx] w fun e w' => e = .returned (.bool false) ∧ w' = w := by
  go_enter Yba.func16, Yba.ntmps16
  go_wp2
  go_ret
  exact ⟨rfl, rfl⟩

/-- What keeping an item leaves. -/
def keptItem (w : World) (sb so ib : Nat) (x : Option Addr) (n : Int) : World :=
  (((w.setCell ⟨ib, 0, none⟩ (.string ⟨#[]⟩)).setCell ⟨ib, 3, none⟩ (.pointer x)).setCell ⟨sb, so, none⟩ (.pointer (some ⟨ib, 0, none⟩))).setCell ⟨sb, so + 2, none⟩ (.int .i32 (n + 1))

theorem keepItem_yes (sb so ib : Nat) (n mx : Int) (x : Option Addr) (k : ByteArray) (nx : Option Addr) (w : World) (hne : ib ≠ sb)
    (hi : w.cell? ⟨sb, so, none⟩ = some (.pointer x)) (hn : w.cell? ⟨sb, so + 2, none⟩ = some (.int .i32 n))
    (hk : w.cell? ⟨ib, 0, none⟩ = some (.string k)) (hx : w.cell? ⟨ib, 3, none⟩ = some (.pointer nx))
    (f0 : w.frozen? ⟨sb, so, none⟩ = false) (f2 : w.frozen? ⟨sb, so + 2, none⟩ = false) (g0 : w.frozen? ⟨ib, 0, none⟩ = false) (g3 : w.frozen? ⟨ib, 3, none⟩ = false)
    (h : n < mx) (h0 : 0 ≤ n) (hm : mx ≤ 1024) :
    Calls Yba.prog 16 #[.pointer (some ⟨sb, so, none⟩), .pointer (some ⟨ib, 0, none⟩), .int .i32 mx] w fun e w' => e = .returned (.bool true) ∧
      w' = keptItem w sb so ib x n := by
  unfold keptItem
  go_enter Yba.func16, Yba.ntmps16
  go_wp2
  go_ret
  exact ⟨rfl, rfl⟩

/-- The bucket of a hash, of eight. -/
def slotOf (h : Int) : Nat := (h / 16 % 8).toNat
theorem slotOf_lt (h : Int) : slotOf h < 8 := by unfold slotOf; omega
theorem and_seven (x : Int) (h0 : 0 ≤ x) (h1 : x ≤ 18446744073709551615) : bits BinOp.and IntKind.u64 x 7 = x % 8 := by
  have h := bits_and_u64_nat x.toNat 7 (by omega) (by omega)
  rw [show (7 : Nat) = 2 ^ 3 - 1 from rfl, Nat.and_two_pow_sub_one_eq_mod, Int.toNat_of_nonneg h0] at h
  have h2 : ((x.toNat % 2 ^ 3 : Nat) : Int) = x % 8 := by omega
  exact h.trans h2
theorem slot_plain (h : Int) (h0 : 0 ≤ h) (h1 : h ≤ 18446744073709551615) : bits BinOp.and IntKind.u64 (h / 16) 7 = (slotOf h : Int) := by
  rw [and_seven _ (by omega) (by omega)]
  unfold slotOf
  omega
theorem slot_wrapped (h : Int) (h0 : 0 ≤ h) (h1 : h ≤ 18446744073709551615) :
    bits BinOp.and IntKind.u64 (IntKind.u64.wrap (h.tdiv 16)) (IntKind.u64.wrap (IntKind.i64.wrap 7)) = (slotOf h : Int) := by
  have e1 : h.tdiv 16 = h / 16 := Int.tdiv_eq_ediv_of_nonneg h0
  have e2 : IntKind.u64.wrap (h / 16) = h / 16 := by rw [IntKind.wrap_u64]; omega
  have e3 : IntKind.u64.wrap (IntKind.i64.wrap 7) = 7 := by decide
  rw [e1, e2, e3, slot_plain h h0 h1]

theorem bucket_any (shb bb : Nat) (h : Int) (w : World) (h0 : 0 ≤ h) (h1 : h ≤ 18446744073709551615) (hb : w.cell? ⟨shb, 2, none⟩ = some (.slice (some ⟨bb, 0, none⟩) 8 8)) :
    Calls Yba.prog 15 #[.pointer (some ⟨shb, 0, none⟩), .int .u64 h] w fun e w' => e = .returned (.pointer (some ⟨bb, slotOf h, none⟩)) ∧ ∃ n, w' = w.drewN n := by
  have hT := slot_wrapped h h0 h1
  have h8 : (slotOf h : Int) < 8 := by have := slotOf_lt h; omega
  go_enter Yba.func15, Yba.ntmps15
  go_wp2
  go_quiet (fail)
  go_wp2
  go_ret
  exact ⟨rfl, _, rfl⟩

theorem keepLock_no (sb so : Nat) (l : Value) (n mx : Int) (w : World) (hn : w.cell? ⟨sb, so + 3, none⟩ = some (.int .i32 n)) (h : mx ≤ n) :
    Calls Yba.prog 9 #[.pointer (some ⟨sb, so, none⟩), l, .int .i32 mx] w fun e w' => e = .returned (.bool false) ∧ w' = w := by
  go_enter Yba.func9, Yba.ntmps9
  go_wp2
  go_ret
  exact ⟨rfl, rfl⟩

/-- What keeping a lock leaves. -/
def keptLock (w : World) (sb so lb : Nat) (x : Option Addr) (n : Int) : World :=
  ((((((w.setCell ⟨lb, 0, none⟩ (.pointer none)).setCell ⟨lb, 1, none⟩ (.pointer none)).setCell ⟨lb, 2, none⟩ (.int .u8 0)).setCell ⟨lb, 3, none⟩ (.int .i64 0)).setCell
    ⟨lb, 4, none⟩ (.pointer x)).setCell ⟨sb, so + 1, none⟩ (.pointer (some ⟨lb, 0, none⟩))).setCell ⟨sb, so + 3, none⟩ (.int .i32 (n + 1))

theorem setCell_drewN (w : World) (n : Nat) (a : Addr) (v : Value) : (w.drewN n).setCell a v = (w.setCell a v).drewN n := rfl
theorem keptLock_drewN (w : World) (n sb so lb : Nat) (x : Option Addr) (k : Int) : keptLock (w.drewN n) sb so lb x k = (keptLock w sb so lb x k).drewN n := by
  unfold keptLock
  simp only [setCell_drewN]

theorem keepLock_yes (sb so lb : Nat) (n mx : Int) (x : Option Addr) (v0 v1 v2 v3 v4 : Value) (w : World) (hne : lb ≠ sb)
    (hi : w.cell? ⟨sb, so + 1, none⟩ = some (.pointer x)) (hn : w.cell? ⟨sb, so + 3, none⟩ = some (.int .i32 n))
    (h0 : w.cell? ⟨lb, 0, none⟩ = some v0) (h1 : w.cell? ⟨lb, 1, none⟩ = some v1) (h2 : w.cell? ⟨lb, 2, none⟩ = some v2) (h3 : w.cell? ⟨lb, 3, none⟩ = some v3) (h4 : w.cell? ⟨lb, 4, none⟩ = some v4)
    (f0 : w.frozen? ⟨sb, so + 1, none⟩ = false) (f2 : w.frozen? ⟨sb, so + 3, none⟩ = false)
    (g0 : w.frozen? ⟨lb, 0, none⟩ = false) (g1 : w.frozen? ⟨lb, 1, none⟩ = false) (g2 : w.frozen? ⟨lb, 2, none⟩ = false) (g3 : w.frozen? ⟨lb, 3, none⟩ = false) (g4 : w.frozen? ⟨lb, 4, none⟩ = false)
    (h : n < mx) (hn0 : 0 ≤ n) (hm : mx ≤ 1024) :
    Calls Yba.prog 9 #[.pointer (some ⟨sb, so, none⟩), .pointer (some ⟨lb, 0, none⟩), .int .i32 mx] w fun e w' => e = .returned (.bool true) ∧
      w' = keptLock w sb so lb x n := by
  unfold keptLock
  go_enter Yba.func9, Yba.ntmps9
  go_wp2
  go_ret
  exact ⟨rfl, rfl⟩

theorem same_item (a : Addr) (w : World) : (binOp .eql 33 (.pointer (some a)) (.pointer (some a))).run Yba.prog w = .ok (.bool true) w := by
  obtain ⟨j, hj⟩ := Option.isSome_iff_exists.1 (show (Yba.prog.info? 47).isSome = true by kernel_rfl)
  exact run_eql_ptr_same w a Yba.underlying33 hj
theorem same_lock (a : Addr) (w : World) : (binOp .eql 34 (.pointer (some a)) (.pointer (some a))).run Yba.prog w = .ok (.bool true) w := by
  obtain ⟨j, hj⟩ := Option.isSome_iff_exists.1 (show (Yba.prog.info? 50).isSome = true by kernel_rfl)
  exact run_eql_ptr_same w a Yba.underlying34 hj

/-- What dropping a reader leaves: the last reader in its place. -/
def dropW (w : World) (ib rb mb m k c : Nat) : World :=
  (((w.setCell ⟨rb, k, none⟩ (.pointer (some ⟨mb, 0, none⟩))).setCell ⟨mb, 3, none⟩ (.int .i64 k)).setCell ⟨rb, m, none⟩ (.pointer none)).setCell ⟨ib, 5, none⟩ (.slice (some ⟨rb, 0, none⟩) m c)
theorem far (w : World) {b b' o o' : Nat} (v : Value) (h : b' ≠ b) : (w.setCell ⟨b', o', none⟩ v).cell? ⟨b, o, none⟩ = w.cell? ⟨b, o, none⟩ :=
  World.cell?_setCell_other w _ _ v (fun e => h (congrArg Addr.block e))
theorem near (w : World) {b o o' : Nat} (v : Value) (h : o' ≠ o) : (w.setCell ⟨b, o', none⟩ v).cell? ⟨b, o, none⟩ = w.cell? ⟨b, o, none⟩ :=
  World.cell?_setCell_other w _ _ v (fun e => h (congrArg Addr.off e))
theorem dropW_line {w : World} {ib rb mb m k c : Nat} {v : Value} (him : ib ≠ mb) (hir : ib ≠ rb) (h : w.cell? ⟨ib, 7, none⟩ = some v) : (dropW w ib rb mb m k c).cell? ⟨ib, 7, none⟩ = some v := by
  unfold dropW
  rw [near _ _ (by decide), far _ _ hir.symm, far _ _ him.symm, far _ _ hir.symm]
  exact h

theorem dropReader_any (ib lb rb mb m k : Nat) (c : Nat) (q : Int) (x : Value) (w : World) (hk : k ≤ m) (hm : m < 8) (hir : ib ≠ rb) (hlr : lb ≠ rb) (him : ib ≠ mb) (hmr : mb ≠ rb)
    (hr : w.cell? ⟨ib, 5, none⟩ = some (.slice (some ⟨rb, 0, none⟩) (m + 1) c)) (hc : m + 1 ≤ c)
    (ha : w.cell? ⟨lb, 3, none⟩ = some (.int .i64 k)) (hl : w.cell? ⟨rb, m, none⟩ = some (.pointer (some ⟨mb, 0, none⟩)))
    (hk' : w.cell? ⟨rb, k, none⟩ = some x) (hq : w.cell? ⟨mb, 3, none⟩ = some (.int .i64 q))
    (f1 : w.frozen? ⟨rb, k, none⟩ = false) (f2 : w.frozen? ⟨mb, 3, none⟩ = false) (f3 : w.frozen? ⟨rb, m, none⟩ = false) (f4 : w.frozen? ⟨ib, 5, none⟩ = false) :
    Calls Yba.prog 6 #[.pointer (some ⟨ib, 0, none⟩), .pointer (some ⟨lb, 0, none⟩)] w fun e w' => e = .returned (.tuple #[]) ∧
      w' = (dropW w ib rb mb m k c).drew := by
  unfold dropW
  obtain ⟨y, hy⟩ := cell?_setCell_some (w := w) (p := ⟨rb, k, none⟩) (x := .pointer (some ⟨mb, 0, none⟩)) (q := ⟨rb, m, none⟩) hl
  go_enter Yba.func6, Yba.ntmps6
  go_wp2
  go_region
  go_wp2
  exact bodyPost_end (results_none rfl _ _ _) rfl ⟨rfl, rfl⟩

/-- The comparison of what a place for spares holds with what is wanted. -/
theorem sp_any (sb so i0 l0 ib lb : Nat) (c : Int) (a b : Bool) (w : World) (h0 : 0 ≤ c) (h1 : c ≤ 1030)
    (c0 : w.cell? ⟨sb, so, none⟩ = some (.pointer (some ⟨if a then ib else i0, 0, none⟩)))
    (c1 : w.cell? ⟨sb, so + 1, none⟩ = some (.pointer (some ⟨if b then lb else l0, 0, none⟩)))
    (c2 : w.cell? ⟨sb, so + 2, none⟩ = some (.int .i32 (if a then c + 1 else c)))
    (c3 : w.cell? ⟨sb, so + 3, none⟩ = some (.int .i32 (if b then c + 1 else c))) :
    Calls Yba.prog 5 #[.pointer (some ⟨sb, so, none⟩), .pointer (some ⟨i0, 0, none⟩), .pointer (some ⟨l0, 0, none⟩), .int .i32 c, .pointer (some ⟨ib, 0, none⟩), .pointer (some ⟨lb, 0, none⟩), .bool a, .bool b] w
      fun e w' => e = .returned (.bool true) ∧ w' = w := by
  have e1 := same_item
  have e2 := same_lock
  cases a <;> cases b <;> simp only [if_true, if_false, Bool.false_eq_true] at c0 c1 c2 c3
  all_goals
    go_enter Yba.func5, Yba.ntmps5
    go_wp2
    go_ret
    exact ⟨rfl, rfl⟩

end Go.Proofs.Ybulkclue.Leaves
