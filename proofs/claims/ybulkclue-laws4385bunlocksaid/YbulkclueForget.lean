/- (*item).forget: the walk over the bucket's chain, and where the item is kept. -/
import Derived.Test.YbulkclueLeaves
import Derived.Deep.LoopGhost
import Derived.Deep.RegionWith
namespace Go.Proofs.Ybulkclue.Forget
set_option linter.unusedVariables false
open Go.RowKit Go.Proofs.Ybulkclue.Leaves

/-- Block b is a row of cells that may be written. -/
def IsRow (w : World) (b : Nat) : Prop := ∃ cs t, w.heap[b]? = some (.cells cs t (0, 0))

theorem neq_item_same (a : Addr) (w : World) : (binOp .neq 33 (.pointer (some a)) (.pointer (some a))).run Yba.prog w = .ok (.bool false) w := by
  obtain ⟨j, hj⟩ := Option.isSome_iff_exists.1 (show (Yba.prog.info? 47).isSome = true by kernel_rfl)
  have h : ∀ d : Nat, (Op.equalIn (d + 1) 33 (.pointer (some a)) (.pointer (some a))).run Yba.prog w = .ok true w := fun d => by
    simp [Op.equalIn, run_underlying Yba.underlying33, sizeOf, typeInfo, hj, run_sameAddr_same]
  simp only [binOp]
  simp [Op.equal, Op.maxDepth, h 9999]

theorem size47 : (Yba.prog.info? 47).map (·.size) = some 13 := by kernel_rfl

theorem item_other {a b : Nat} {w : World} (hne : a ≠ b) (ha : IsRow w a) (hb : IsRow w b) :
    (binOp .neq 33 (.pointer (some ⟨a, 0, none⟩)) (.pointer (some ⟨b, 0, none⟩))).run Yba.prog w = .ok (.bool true) w ∧
    (binOp .eql 33 (.pointer (some ⟨a, 0, none⟩)) (.pointer (some ⟨b, 0, none⟩))).run Yba.prog w = .ok (.bool false) w := by
  obtain ⟨ca, ta, ha⟩ := ha
  obtain ⟨cb, tb, hb⟩ := hb
  obtain ⟨j, hj, hs⟩ := Option.map_eq_some_iff.1 size47
  have hne' : (⟨a, 0, none⟩ : Addr) ≠ ⟨b, 0, none⟩ := fun e => hne (congrArg Addr.block e)
  have h : ∀ d : Nat, (Op.equalIn (d + 1) 33 (.pointer (some ⟨a, 0, none⟩)) (.pointer (some ⟨b, 0, none⟩))).run Yba.prog w = .ok false w := fun d => by
    simp [Op.equalIn, run_underlying Yba.underlying33, sizeOf, typeInfo, hj, hs, run_sameAddr_other w hne' ha hb]
  constructor
  · simp only [binOp]
    simp [Op.equal, Op.maxDepth, h 9999]
  · simp only [binOp]
    simp [Op.equal, Op.maxDepth, h 9999]

/-- The item is still held: nothing happens. -/
theorem forget_held (ib m c : Nat) (ad : Option Addr) (keep : Value) (w : World) (hm : 0 < m)
    (h4 : w.cell? ⟨ib, 4, none⟩ = some (.pointer none)) (h5 : w.cell? ⟨ib, 5, none⟩ = some (.slice ad m c)) :
    Calls Yba.prog 8 #[.pointer (some ⟨ib, 0, none⟩), keep] w fun e w' => e = .returned (.tuple #[]) ∧ w' = w := by
  go_enter Yba.func8, Yba.ntmps8
  go_wp2
  exact bodyPost_ret (results_none rfl _ _ _) rfl ⟨rfl, rfl⟩


/-- What leaving the bucket leaves: the link that led to the item leads past it; the shard holds one item less. -/
def goneW (w : World) (lb lo : Nat) (nx : Option Addr) (shb : Nat) (N : Int) : World := (w.setCell ⟨lb, lo, none⟩ (.pointer nx)).setCell ⟨shb, 3, none⟩ (.int .i64 (N - 1))

attribute [local go_sem] setCell_drewN
theorem keptItem_drewN (w : World) (n sb so ib : Nat) (x : Option Addr) (k : Int) : keptItem (w.drewN n) sb so ib x k = (keptItem w sb so ib x k).drewN n := rfl

set_option maxHeartbeats 1000000 in
theorem gone_nil_none (ib shb bb q : Nat) (c lkb lko : Nat → Nat) (cp : Nat) (ad : Option Addr) (h : Int) (nx si : Option Addr) (ky : ByteArray) (N sc : Int) (w : World)
    (h0 : 0 ≤ h) (h1 : h ≤ 18446744073709551615) (hN0 : 1 ≤ N) (hN1 : N ≤ 100) (hsc : 0 ≤ sc)
    (i0 : w.cell? ⟨ib, 0, none⟩ = some (.string ky)) (i1 : w.cell? ⟨ib, 1, none⟩ = some (.int .u64 h)) (i2 : w.cell? ⟨ib, 2, none⟩ = some (.pointer (some ⟨shb, 0, none⟩))) (i3 : w.cell? ⟨ib, 3, none⟩ = some (.pointer nx))
    (i4 : w.cell? ⟨ib, 4, none⟩ = some (.pointer none)) (i5 : w.cell? ⟨ib, 5, none⟩ = some (.slice ad 0 cp)) (i7 : w.cell? ⟨ib, 7, none⟩ = some (.pointer none))
    (fi0 : w.frozen? ⟨ib, 0, none⟩ = false) (fi3 : w.frozen? ⟨ib, 3, none⟩ = false)
    (s2 : w.cell? ⟨shb, 2, none⟩ = some (.slice (some ⟨bb, 0, none⟩) 8 8)) (s3 : w.cell? ⟨shb, 3, none⟩ = some (.int .i64 N)) (fs3 : w.frozen? ⟨shb, 3, none⟩ = false)
    (s4 : w.cell? ⟨shb, 4, none⟩ = some (.pointer si)) (s6 : w.cell? ⟨shb, 6, none⟩ = some (.int .i32 sc)) (fs4 : w.frozen? ⟨shb, 4, none⟩ = false) (fs6 : w.frozen? ⟨shb, 6, none⟩ = false)
    (hlk0 : Hid (lkb 0 = bb ∧ lko 0 = slotOf h)) (hlk : Hid (∀ i, lkb (i + 1) = c i ∧ lko (i + 1) = 3))
    (hcell : Hid (∀ i, i ≤ q → w.cell? ⟨lkb i, lko i, none⟩ = some (.pointer (some ⟨c i, 0, none⟩))))
    (hq : Hid (c q = ib)) (hne : Hid (∀ i, i < q → c i ≠ ib)) (hrow : Hid (∀ i, i ≤ q → IsRow w (c i)))
    (flk : w.frozen? ⟨lkb q, lko q, none⟩ = false) (hls : lkb q ≠ shb) (hli : lkb q ≠ ib) (his : ib ≠ shb) (hfull : 1024 ≤ sc) :
    Calls Yba.prog 8 #[.pointer (some ⟨ib, 0, none⟩), .pointer none] w fun e w' => e = .returned (.tuple #[]) ∧
      ∃ nd, w' = World.drewN (goneW w (lkb q) (lko q) nx shb N) nd := by
  go_enter Yba.func8, Yba.ntmps8
  go_wp2_with (first
    | (go_at_call 14; refine (empty_any _ _ _ (by assumption)).mono ?_; rintro e wz ⟨rfl, rfl⟩)
    | (go_at_call 15; refine (bucket_any _ bb _ _ h0 h1 (by assumption)).mono ?_; rintro e w2 ⟨rfl, nd, rfl⟩))
  go_loopg [5] q (fun k p wr => ∃ i, i + k = q ∧ p = .pointer (some ⟨lkb i, lko i, none⟩) ∧ wr = wz.drewN nd)
  case atStart => exact ⟨0, by omega, by rw [hlk0.out.1, hlk0.out.2], rfl⟩
  case round =>
    obtain ⟨i, hi, rfl, rfl⟩ := hrel
    by_cases hiq : i = q
    · subst hiq
      have hc := hcell.out i (Nat.le_refl _)
      rw [hq.out] at hc
      have hsame := neq_item_same
      clear hi
      go_wp2_with (first
        | (go_at_call_of 16 shb; refine (keepItem_no shb 4 _ sc 1024 _ (by go_simp) hfull).mono ?_; rintro e w3 ⟨rfl, rfl⟩))
      exact bodyPost_end (results_none rfl _ _ _) rfl ⟨rfl, nd, rfl⟩
    · have hc := hcell.out i (by omega)
      have hneq := (item_other (w := wz.drewN nd) (hne.out i (by omega)) (hrow.out i (by omega)) (hq.out ▸ hrow.out q (Nat.le_refl _))).1
      go_wp2
      go_roundg (gk - 1)
      case measure => omega
      case rel => exact ⟨i + 1, by omega, by rw [(hlk.out i).1, (hlk.out i).2], rfl⟩

set_option maxHeartbeats 1000000 in
theorem gone_nil_shard (ib shb bb q : Nat) (c lkb lko : Nat → Nat) (cp : Nat) (ad : Option Addr) (h : Int) (nx si : Option Addr) (ky : ByteArray) (N sc : Int) (w : World)
    (h0 : 0 ≤ h) (h1 : h ≤ 18446744073709551615) (hN0 : 1 ≤ N) (hN1 : N ≤ 100) (hsc : 0 ≤ sc)
    (i0 : w.cell? ⟨ib, 0, none⟩ = some (.string ky)) (i1 : w.cell? ⟨ib, 1, none⟩ = some (.int .u64 h)) (i2 : w.cell? ⟨ib, 2, none⟩ = some (.pointer (some ⟨shb, 0, none⟩))) (i3 : w.cell? ⟨ib, 3, none⟩ = some (.pointer nx))
    (i4 : w.cell? ⟨ib, 4, none⟩ = some (.pointer none)) (i5 : w.cell? ⟨ib, 5, none⟩ = some (.slice ad 0 cp)) (i7 : w.cell? ⟨ib, 7, none⟩ = some (.pointer none))
    (fi0 : w.frozen? ⟨ib, 0, none⟩ = false) (fi3 : w.frozen? ⟨ib, 3, none⟩ = false)
    (s2 : w.cell? ⟨shb, 2, none⟩ = some (.slice (some ⟨bb, 0, none⟩) 8 8)) (s3 : w.cell? ⟨shb, 3, none⟩ = some (.int .i64 N)) (fs3 : w.frozen? ⟨shb, 3, none⟩ = false)
    (s4 : w.cell? ⟨shb, 4, none⟩ = some (.pointer si)) (s6 : w.cell? ⟨shb, 6, none⟩ = some (.int .i32 sc)) (fs4 : w.frozen? ⟨shb, 4, none⟩ = false) (fs6 : w.frozen? ⟨shb, 6, none⟩ = false)
    (hlk0 : Hid (lkb 0 = bb ∧ lko 0 = slotOf h)) (hlk : Hid (∀ i, lkb (i + 1) = c i ∧ lko (i + 1) = 3))
    (hcell : Hid (∀ i, i ≤ q → w.cell? ⟨lkb i, lko i, none⟩ = some (.pointer (some ⟨c i, 0, none⟩))))
    (hq : Hid (c q = ib)) (hne : Hid (∀ i, i < q → c i ≠ ib)) (hrow : Hid (∀ i, i ≤ q → IsRow w (c i)))
    (flk : w.frozen? ⟨lkb q, lko q, none⟩ = false) (hls : lkb q ≠ shb) (hli : lkb q ≠ ib) (his : ib ≠ shb) (hroom : sc < 1024) :
    Calls Yba.prog 8 #[.pointer (some ⟨ib, 0, none⟩), .pointer none] w fun e w' => e = .returned (.tuple #[]) ∧
      ∃ nd, w' = World.drewN (keptItem (goneW w (lkb q) (lko q) nx shb N) shb 4 ib si sc) nd := by
  go_enter Yba.func8, Yba.ntmps8
  go_wp2_with (first
    | (go_at_call 14; refine (empty_any _ _ _ (by assumption)).mono ?_; rintro e wz ⟨rfl, rfl⟩)
    | (go_at_call 15; refine (bucket_any _ bb _ _ h0 h1 (by assumption)).mono ?_; rintro e w2 ⟨rfl, nd, rfl⟩))
  go_loopg [5] q (fun k p wr => ∃ i, i + k = q ∧ p = .pointer (some ⟨lkb i, lko i, none⟩) ∧ wr = wz.drewN nd)
  case atStart => exact ⟨0, by omega, by rw [hlk0.out.1, hlk0.out.2], rfl⟩
  case round =>
    obtain ⟨i, hi, rfl, rfl⟩ := hrel
    by_cases hiq : i = q
    · subst hiq
      have hc := hcell.out i (Nat.le_refl _)
      rw [hq.out] at hc
      have hsame := neq_item_same
      clear hi
      go_wp2_with (first
        | (go_at_call_of 16 shb; refine (keepItem_yes shb 4 ib sc 1024 si ky nx _ his (by go_simp) (by go_simp) (by go_simp) (by go_simp) (by go_simp) (by go_simp) (by go_simp) (by go_simp) hroom hsc (by omega)).mono ?_; rintro e w3 ⟨rfl, rfl⟩))
      refine bodyPost_end (results_none rfl _ _ _) rfl ⟨rfl, nd, ?_⟩
      rw [keptItem_drewN]
      unfold goneW
      rfl
    · have hc := hcell.out i (by omega)
      have hneq := (item_other (w := wz.drewN nd) (hne.out i (by omega)) (hrow.out i (by omega)) (hq.out ▸ hrow.out q (Nat.le_refl _))).1
      go_wp2
      go_roundg (gk - 1)
      case measure => omega
      case rel => exact ⟨i + 1, by omega, by rw [(hlk.out i).1, (hlk.out i).2], rfl⟩

set_option maxHeartbeats 1000000 in
theorem gone_keep (ib shb bb q : Nat) (c lkb lko : Nat → Nat) (cp : Nat) (ad : Option Addr) (h : Int) (nx si : Option Addr) (ky : ByteArray) (N sc : Int) (w : World)
    (h0 : 0 ≤ h) (h1 : h ≤ 18446744073709551615) (hN0 : 1 ≤ N) (hN1 : N ≤ 100) (hsc : 0 ≤ sc)
    (i0 : w.cell? ⟨ib, 0, none⟩ = some (.string ky)) (i1 : w.cell? ⟨ib, 1, none⟩ = some (.int .u64 h)) (i2 : w.cell? ⟨ib, 2, none⟩ = some (.pointer (some ⟨shb, 0, none⟩))) (i3 : w.cell? ⟨ib, 3, none⟩ = some (.pointer nx))
    (i4 : w.cell? ⟨ib, 4, none⟩ = some (.pointer none)) (i5 : w.cell? ⟨ib, 5, none⟩ = some (.slice ad 0 cp)) (i7 : w.cell? ⟨ib, 7, none⟩ = some (.pointer none))
    (fi0 : w.frozen? ⟨ib, 0, none⟩ = false) (fi3 : w.frozen? ⟨ib, 3, none⟩ = false)
    (s2 : w.cell? ⟨shb, 2, none⟩ = some (.slice (some ⟨bb, 0, none⟩) 8 8)) (s3 : w.cell? ⟨shb, 3, none⟩ = some (.int .i64 N)) (fs3 : w.frozen? ⟨shb, 3, none⟩ = false)
    (s4 : w.cell? ⟨shb, 4, none⟩ = some (.pointer si)) (s6 : w.cell? ⟨shb, 6, none⟩ = some (.int .i32 sc)) (fs4 : w.frozen? ⟨shb, 4, none⟩ = false) (fs6 : w.frozen? ⟨shb, 6, none⟩ = false)
    (hlk0 : Hid (lkb 0 = bb ∧ lko 0 = slotOf h)) (hlk : Hid (∀ i, lkb (i + 1) = c i ∧ lko (i + 1) = 3))
    (hcell : Hid (∀ i, i ≤ q → w.cell? ⟨lkb i, lko i, none⟩ = some (.pointer (some ⟨c i, 0, none⟩))))
    (hq : Hid (c q = ib)) (hne : Hid (∀ i, i < q → c i ≠ ib)) (hrow : Hid (∀ i, i ≤ q → IsRow w (c i)))
    (flk : w.frozen? ⟨lkb q, lko q, none⟩ = false) (hls : lkb q ≠ shb) (hli : lkb q ≠ ib) (his : ib ≠ shb) (kb : Nat) (ki : Option Addr) (kc : Int) (hkc : 0 ≤ kc) (k0 : w.cell? ⟨kb, 0, none⟩ = some (.pointer ki)) (k2 : w.cell? ⟨kb, 2, none⟩ = some (.int .i32 kc))
    (fk0 : w.frozen? ⟨kb, 0, none⟩ = false) (fk2 : w.frozen? ⟨kb, 2, none⟩ = false) (hki : ib ≠ kb) (hks : kb ≠ shb) (hkl : lkb q ≠ kb) (hroom : kc < 64) :
    Calls Yba.prog 8 #[.pointer (some ⟨ib, 0, none⟩), .pointer (some ⟨kb, 0, none⟩)] w fun e w' => e = .returned (.tuple #[]) ∧
      ∃ nd, w' = World.drewN (keptItem (goneW w (lkb q) (lko q) nx shb N) kb 0 ib ki kc) nd := by
  go_enter Yba.func8, Yba.ntmps8
  go_wp2_with (first
    | (go_at_call 14; refine (empty_any _ _ _ (by assumption)).mono ?_; rintro e wz ⟨rfl, rfl⟩)
    | (go_at_call 15; refine (bucket_any _ bb _ _ h0 h1 (by assumption)).mono ?_; rintro e w2 ⟨rfl, nd, rfl⟩))
  go_loopg [5] q (fun k p wr => ∃ i, i + k = q ∧ p = .pointer (some ⟨lkb i, lko i, none⟩) ∧ wr = wz.drewN nd)
  case atStart => exact ⟨0, by omega, by rw [hlk0.out.1, hlk0.out.2], rfl⟩
  case round =>
    obtain ⟨i, hi, rfl, rfl⟩ := hrel
    by_cases hiq : i = q
    · subst hiq
      have hc := hcell.out i (Nat.le_refl _)
      rw [hq.out] at hc
      have hsame := neq_item_same
      clear hi
      go_wp2_with (first
        | (go_at_call_of 16 kb; refine (keepItem_yes kb 0 ib kc 64 ki ky nx _ hki (by go_simp) (by go_simp) (by go_simp) (by go_simp) (by go_simp) (by go_simp) (by go_simp) (by go_simp) hroom hkc (by omega)).mono ?_; rintro e w3 ⟨rfl, rfl⟩))
      refine bodyPost_end (results_none rfl _ _ _) rfl ⟨rfl, nd, ?_⟩
      rw [keptItem_drewN]
      unfold goneW
      rfl
    · have hc := hcell.out i (by omega)
      have hneq := (item_other (w := wz.drewN nd) (hne.out i (by omega)) (hrow.out i (by omega)) (hq.out ▸ hrow.out q (Nat.le_refl _))).1
      go_wp2
      go_roundg (gk - 1)
      case measure => omega
      case rel => exact ⟨i + 1, by omega, by rw [(hlk.out i).1, (hlk.out i).2], rfl⟩

set_option maxHeartbeats 1000000 in
theorem gone_full_shard (ib shb bb q : Nat) (c lkb lko : Nat → Nat) (cp : Nat) (ad : Option Addr) (h : Int) (nx si : Option Addr) (ky : ByteArray) (N sc : Int) (w : World)
    (h0 : 0 ≤ h) (h1 : h ≤ 18446744073709551615) (hN0 : 1 ≤ N) (hN1 : N ≤ 100) (hsc : 0 ≤ sc)
    (i0 : w.cell? ⟨ib, 0, none⟩ = some (.string ky)) (i1 : w.cell? ⟨ib, 1, none⟩ = some (.int .u64 h)) (i2 : w.cell? ⟨ib, 2, none⟩ = some (.pointer (some ⟨shb, 0, none⟩))) (i3 : w.cell? ⟨ib, 3, none⟩ = some (.pointer nx))
    (i4 : w.cell? ⟨ib, 4, none⟩ = some (.pointer none)) (i5 : w.cell? ⟨ib, 5, none⟩ = some (.slice ad 0 cp)) (i7 : w.cell? ⟨ib, 7, none⟩ = some (.pointer none))
    (fi0 : w.frozen? ⟨ib, 0, none⟩ = false) (fi3 : w.frozen? ⟨ib, 3, none⟩ = false)
    (s2 : w.cell? ⟨shb, 2, none⟩ = some (.slice (some ⟨bb, 0, none⟩) 8 8)) (s3 : w.cell? ⟨shb, 3, none⟩ = some (.int .i64 N)) (fs3 : w.frozen? ⟨shb, 3, none⟩ = false)
    (s4 : w.cell? ⟨shb, 4, none⟩ = some (.pointer si)) (s6 : w.cell? ⟨shb, 6, none⟩ = some (.int .i32 sc)) (fs4 : w.frozen? ⟨shb, 4, none⟩ = false) (fs6 : w.frozen? ⟨shb, 6, none⟩ = false)
    (hlk0 : Hid (lkb 0 = bb ∧ lko 0 = slotOf h)) (hlk : Hid (∀ i, lkb (i + 1) = c i ∧ lko (i + 1) = 3))
    (hcell : Hid (∀ i, i ≤ q → w.cell? ⟨lkb i, lko i, none⟩ = some (.pointer (some ⟨c i, 0, none⟩))))
    (hq : Hid (c q = ib)) (hne : Hid (∀ i, i < q → c i ≠ ib)) (hrow : Hid (∀ i, i ≤ q → IsRow w (c i)))
    (flk : w.frozen? ⟨lkb q, lko q, none⟩ = false) (hls : lkb q ≠ shb) (hli : lkb q ≠ ib) (his : ib ≠ shb) (kb : Nat) (ki : Option Addr) (kc : Int) (hkc : 0 ≤ kc) (k0 : w.cell? ⟨kb, 0, none⟩ = some (.pointer ki)) (k2 : w.cell? ⟨kb, 2, none⟩ = some (.int .i32 kc))
    (fk0 : w.frozen? ⟨kb, 0, none⟩ = false) (fk2 : w.frozen? ⟨kb, 2, none⟩ = false) (hki : ib ≠ kb) (hks : kb ≠ shb) (hkl : lkb q ≠ kb) (hkfull : 64 ≤ kc) (hroom : sc < 1024) :
    Calls Yba.prog 8 #[.pointer (some ⟨ib, 0, none⟩), .pointer (some ⟨kb, 0, none⟩)] w fun e w' => e = .returned (.tuple #[]) ∧
      ∃ nd, w' = World.drewN (keptItem (goneW w (lkb q) (lko q) nx shb N) shb 4 ib si sc) nd := by
  go_enter Yba.func8, Yba.ntmps8
  go_wp2_with (first
    | (go_at_call 14; refine (empty_any _ _ _ (by assumption)).mono ?_; rintro e wz ⟨rfl, rfl⟩)
    | (go_at_call 15; refine (bucket_any _ bb _ _ h0 h1 (by assumption)).mono ?_; rintro e w2 ⟨rfl, nd, rfl⟩))
  go_loopg [5] q (fun k p wr => ∃ i, i + k = q ∧ p = .pointer (some ⟨lkb i, lko i, none⟩) ∧ wr = wz.drewN nd)
  case atStart => exact ⟨0, by omega, by rw [hlk0.out.1, hlk0.out.2], rfl⟩
  case round =>
    obtain ⟨i, hi, rfl, rfl⟩ := hrel
    by_cases hiq : i = q
    · subst hiq
      have hc := hcell.out i (Nat.le_refl _)
      rw [hq.out] at hc
      have hsame := neq_item_same
      clear hi
      go_wp2_with (first
        | (go_at_call_of 16 kb; refine (keepItem_no kb 0 _ kc 64 _ (by go_simp) hkfull).mono ?_; rintro e w3 ⟨rfl, rfl⟩)
        | (go_at_call_of 16 shb; refine (keepItem_yes shb 4 ib sc 1024 si ky nx _ his (by go_simp) (by go_simp) (by go_simp) (by go_simp) (by go_simp) (by go_simp) (by go_simp) (by go_simp) hroom hsc (by omega)).mono ?_; rintro e w3 ⟨rfl, rfl⟩))
      refine bodyPost_end (results_none rfl _ _ _) rfl ⟨rfl, nd, ?_⟩
      rw [keptItem_drewN]
      unfold goneW
      rfl
    · have hc := hcell.out i (by omega)
      have hneq := (item_other (w := wz.drewN nd) (hne.out i (by omega)) (hrow.out i (by omega)) (hq.out ▸ hrow.out q (Nat.le_refl _))).1
      go_wp2
      go_roundg (gk - 1)
      case measure => omega
      case rel => exact ⟨i + 1, by omega, by rw [(hlk.out i).1, (hlk.out i).2], rfl⟩

set_option maxHeartbeats 1000000 in
theorem gone_full_none (ib shb bb q : Nat) (c lkb lko : Nat → Nat) (cp : Nat) (ad : Option Addr) (h : Int) (nx si : Option Addr) (ky : ByteArray) (N sc : Int) (w : World)
    (h0 : 0 ≤ h) (h1 : h ≤ 18446744073709551615) (hN0 : 1 ≤ N) (hN1 : N ≤ 100) (hsc : 0 ≤ sc)
    (i0 : w.cell? ⟨ib, 0, none⟩ = some (.string ky)) (i1 : w.cell? ⟨ib, 1, none⟩ = some (.int .u64 h)) (i2 : w.cell? ⟨ib, 2, none⟩ = some (.pointer (some ⟨shb, 0, none⟩))) (i3 : w.cell? ⟨ib, 3, none⟩ = some (.pointer nx))
    (i4 : w.cell? ⟨ib, 4, none⟩ = some (.pointer none)) (i5 : w.cell? ⟨ib, 5, none⟩ = some (.slice ad 0 cp)) (i7 : w.cell? ⟨ib, 7, none⟩ = some (.pointer none))
    (fi0 : w.frozen? ⟨ib, 0, none⟩ = false) (fi3 : w.frozen? ⟨ib, 3, none⟩ = false)
    (s2 : w.cell? ⟨shb, 2, none⟩ = some (.slice (some ⟨bb, 0, none⟩) 8 8)) (s3 : w.cell? ⟨shb, 3, none⟩ = some (.int .i64 N)) (fs3 : w.frozen? ⟨shb, 3, none⟩ = false)
    (s4 : w.cell? ⟨shb, 4, none⟩ = some (.pointer si)) (s6 : w.cell? ⟨shb, 6, none⟩ = some (.int .i32 sc)) (fs4 : w.frozen? ⟨shb, 4, none⟩ = false) (fs6 : w.frozen? ⟨shb, 6, none⟩ = false)
    (hlk0 : Hid (lkb 0 = bb ∧ lko 0 = slotOf h)) (hlk : Hid (∀ i, lkb (i + 1) = c i ∧ lko (i + 1) = 3))
    (hcell : Hid (∀ i, i ≤ q → w.cell? ⟨lkb i, lko i, none⟩ = some (.pointer (some ⟨c i, 0, none⟩))))
    (hq : Hid (c q = ib)) (hne : Hid (∀ i, i < q → c i ≠ ib)) (hrow : Hid (∀ i, i ≤ q → IsRow w (c i)))
    (flk : w.frozen? ⟨lkb q, lko q, none⟩ = false) (hls : lkb q ≠ shb) (hli : lkb q ≠ ib) (his : ib ≠ shb) (kb : Nat) (ki : Option Addr) (kc : Int) (hkc : 0 ≤ kc) (k0 : w.cell? ⟨kb, 0, none⟩ = some (.pointer ki)) (k2 : w.cell? ⟨kb, 2, none⟩ = some (.int .i32 kc))
    (fk0 : w.frozen? ⟨kb, 0, none⟩ = false) (fk2 : w.frozen? ⟨kb, 2, none⟩ = false) (hki : ib ≠ kb) (hks : kb ≠ shb) (hkl : lkb q ≠ kb) (hkfull : 64 ≤ kc) (hfull : 1024 ≤ sc) :
    Calls Yba.prog 8 #[.pointer (some ⟨ib, 0, none⟩), .pointer (some ⟨kb, 0, none⟩)] w fun e w' => e = .returned (.tuple #[]) ∧
      ∃ nd, w' = World.drewN (goneW w (lkb q) (lko q) nx shb N) nd := by
  go_enter Yba.func8, Yba.ntmps8
  go_wp2_with (first
    | (go_at_call 14; refine (empty_any _ _ _ (by assumption)).mono ?_; rintro e wz ⟨rfl, rfl⟩)
    | (go_at_call 15; refine (bucket_any _ bb _ _ h0 h1 (by assumption)).mono ?_; rintro e w2 ⟨rfl, nd, rfl⟩))
  go_loopg [5] q (fun k p wr => ∃ i, i + k = q ∧ p = .pointer (some ⟨lkb i, lko i, none⟩) ∧ wr = wz.drewN nd)
  case atStart => exact ⟨0, by omega, by rw [hlk0.out.1, hlk0.out.2], rfl⟩
  case round =>
    obtain ⟨i, hi, rfl, rfl⟩ := hrel
    by_cases hiq : i = q
    · subst hiq
      have hc := hcell.out i (Nat.le_refl _)
      rw [hq.out] at hc
      have hsame := neq_item_same
      clear hi
      go_wp2_with (first
        | (go_at_call_of 16 kb; refine (keepItem_no kb 0 _ kc 64 _ (by go_simp) hkfull).mono ?_; rintro e w3 ⟨rfl, rfl⟩)
        | (go_at_call_of 16 shb; refine (keepItem_no shb 4 _ sc 1024 _ (by go_simp) hfull).mono ?_; rintro e w3 ⟨rfl, rfl⟩))
      exact bodyPost_end (results_none rfl _ _ _) rfl ⟨rfl, nd, rfl⟩
    · have hc := hcell.out i (by omega)
      have hneq := (item_other (w := wz.drewN nd) (hne.out i (by omega)) (hrow.out i (by omega)) (hq.out ▸ hrow.out q (Nat.le_refl _))).1
      go_wp2
      go_roundg (gk - 1)
      case measure => omega
      case rel => exact ⟨i + 1, by omega, by rw [(hlk.out i).1, (hlk.out i).2], rfl⟩

end Go.Proofs.Ybulkclue.Forget
