/- LawS4388CWalk's walk. -/
import Derived.Test.YbulkclvuStep
namespace Go.Proofs.Ybulkclvu.Sql
set_option linter.unusedVariables false
open Go.RowKit Go.Proofs.Ybulkclvu.Mem

/-- The tokens as they lie in a world, and the parser's cells. -/
structure Pars (w W : World) (cs : Array Value) (n g p i : Nat) : Prop where
  un : Un (fun _ _ => False) w W
  toks : ∀ j, j < n → W.cell? ⟨g, j * 2, none⟩ = some (.int .u8 (kindAt cs j)) ∧ W.cell? ⟨g, j * 2 + 1, none⟩ = some (.string (textAt cs j))
  new : w.heap.size ≤ p
  apart : g ≠ p
  ty : Ty W p 78
  p0 : W.cell? ⟨p, 0, none⟩ = some (.slice (some ⟨g, 0, none⟩) n n)
  p1 : W.cell? ⟨p, 1, none⟩ = some (.int .i64 i)

theorem Pars.alloc {w W : World} {cs : Array Value} {n g p i : Nat} (h : Pars w W cs n g p i) (o : Obj) : Pars w (W.alloc o) cs n g p i :=
  ⟨h.un.alloc o, fun j hj => ⟨same_new _ _ _ _ (h.toks j hj).1, same_new _ _ _ _ (h.toks j hj).2⟩, h.new, h.apart, h.ty.alloc o, same_new _ _ _ _ h.p0, same_new _ _ _ _ h.p1⟩
theorem Pars.drewN {w W : World} {cs : Array Value} {n g p i : Nat} (h : Pars w W cs n g p i) (k : Nat) : Pars w (W.drewN k) cs n g p i :=
  ⟨h.un.drewN k, h.toks, h.new, h.apart, h.ty, h.p0, h.p1⟩
theorem Pars.next {w W Z : World} {cs : Array Value} {n g p i i' : Nat} (h : Pars w W cs n g p i) (hZ : Un (fun b o => b = p ∧ o = 1) W Z) (h1 : Z.cell? ⟨p, 1, none⟩ = some (.int .i64 i')) : Pars w Z cs n g p i' := by
  have hpl := World.block_lt_of_cell? _ _ h.p0
  refine ⟨⟨Nat.le_trans h.un.size hZ.size, fun b o hb hn => ?_, fun b t ht => hZ.ty b t (h.un.ty b t ht), fun B hB hT => ?_⟩, fun j hj => ?_, h.new, h.apart, hZ.ty _ _ h.ty, ?_, h1⟩
  · have := h.un.size
    have := h.new
    rw [hZ.cell b o (by omega) (by omega)]
    exact h.un.cell b o hb hn
  · have := h.un.size
    have := h.new
    exact (h.un.below B hB hT).trans (hZ.below B (by omega) (by rintro b o ⟨rfl, rfl⟩; omega))
  · have ha := h.apart
    have hgl := World.block_lt_of_cell? _ _ (h.toks j hj).1
    rw [hZ.cell _ _ hgl (fun e => ha e.1), hZ.cell _ _ hgl (fun e => ha e.1)]
    exact h.toks j hj
  · rw [hZ.cell _ _ hpl (by omega)]
    exact h.p0

set_option maxRecDepth 8000 in
set_option maxHeartbeats 2000000 in
theorem walk_any (ka ta : Option Addr) (kl kcap tl tcap : Nat) (w : World) (hk : Hid (Kv w ka kl)) (ht : Hid (Sv w ta tl)) (htl : Hid (tl ≤ 9223372036854775807)) :
    Calls Yba.prog 6 #[.slice ka kl kcap, .slice ta tl tcap] w fun e w' => e = .returned (.bool true) ∧ Below w.heap.size w w' := by
  go_enter Yba.func6, Yba.ntmps6
  by_cases hkl : 1024 < kl
  · go_wp2
    go_ret
    exact ⟨rfl, Below.refl _ _⟩
  · have hkl' : kl ≤ 1024 := by omega
    clear hkl
    go_wp2_with fail
    refine (build_any ka ta kl kcap tl tcap _ hk ht hkl' htl.out).mono ?_
    rintro e w1 ⟨rfl, hU, cs, hcs, hsz, hT, hK⟩
    obtain ⟨g, hg⟩ : ∃ g, g = w.heap.size := ⟨_, rfl⟩
    have HT : Hid (∀ i, i < kl + 1 → w1.cell? ⟨g, i * 2, none⟩ = some (.int .u8 (kindAt cs i)) ∧ w1.cell? ⟨g, i * 2 + 1, none⟩ = some (.string (textAt cs i))) := fun i hi => by
      subst hg
      rw [cell_of_row _ _ _ _ _ _ hcs, cell_of_row _ _ _ _ _ _ hcs]
      exact hT i hi
    have HU : Hid (Un (fun _ _ => False) w w1) := hU
    have hgl : g < w1.heap.size := by rw [hg]; exact (Array.getElem?_eq_some_iff.1 hcs).1
    have HK : Hid (kindAt cs kl = 0) := hK
    have hns := neq_same
    rw [← hg]
    clear hg
    clear hU hcs hsz hT hK hk ht
    go_upto_block 0 with fail
    go_wp2_with fail
    go_loopg [7] (kl + 1) (fun gk i wr => ∃ k, k + gk = kl + 1 ∧ i = .int .i64 ((k : Nat) : Int) ∧ wr = w1 ∧ k ≤ kl ∧ ∀ j, j < k → kindAt cs j ≠ 0)
    case atStart => exact ⟨0, by omega, rfl, rfl, by omega, fun j hj => by omega⟩
    case round =>
      obtain ⟨e, hk, rfl, rfl, hle, hne⟩ := hrel
      obtain ⟨t0, t1⟩ := HT.out e (by omega)
      have hki : (e : Int) < (kl : Int) + 1 := by omega
      have HN := show Hid _ from hne
      clear hne
      by_cases hK0 : kindAt cs e = 0
      · rw [hK0] at t0
        go_upto_block 2 with fail
        refine forget_world (fun W => Pars w W cs (kl + 1) g wr.heap.size 0) ⟨HU.out.alloc _, fun j hj => ⟨same_new _ _ _ _ (HT.out j hj).1, same_new _ _ _ _ (HT.out j hj).2⟩, HU.out.size, by omega, Ty.new _ _ _, cell_last _ _ _ _, cell_last _ _ _ _⟩ ?fb
        intro W hW
        have HW := show Hid _ from hW
        obtain ⟨p, hp⟩ : ∃ p, p = wr.heap.size := ⟨_, rfl⟩
        rw [← hp] at HW ⊢
        have HK0 : Hid (kindAt cs e = 0) := hK0
        clear hW t0 t1 HT HU hp hgl hK0
        go_wp2_with fail
        go_loopg [9] (kl + 3) (fun gk i wr => ∃ s, s + gk = kl + 3 ∧ i = .int .i64 ((s : Nat) : Int) ∧ Pars w wr cs (kl + 1) g p (min s e))
        case atStart => exact ⟨0, by omega, rfl, by rw [Nat.zero_min]; exact HW.out⟩
        case round =>
          obtain ⟨s, hs, rfl, hP⟩ := hrel
          have HP := show Hid _ from hP
          clear hP HW
          by_cases hlt : s < kl + 3
          · by_cases hse : s ≤ e
            · have hsi : (s : Int) < (kl : Int) + 1 := by omega
              have hP := HP.out
              rw [Nat.min_eq_left hse] at hP
              have r0 := hP.p0
              have r1 := hP.p1
              obtain ⟨t0, t1⟩ := hP.toks s (by omega)
              have HP' := show Hid _ from hP
              clear hP HP
              go_wp2_with fail
              refine (next_any p g (kl + 1) (kl + 1) s (kindAt cs s) (textAt cs s) _ (by omega) (by omega) HP'.out.ty r0 r1 t0 t1).mono ?_
              rintro _ Z ⟨rfl, hZU, hZ1⟩
              have hPZ := HP'.out.next hZU hZ1
              have HZ := show Hid _ from hPZ
              clear hPZ hZU hZ1 r0 r1 t0 t1 HP'
              go_upto_region 18 with fail
              refine forget_world (fun Y => Pars w Y cs (kl + 1) g p (if kindAt cs s = 0 then s else s + 1) ∧ Y.cell? ⟨Z.heap.size, 0, none⟩ = some (.int .u8 (kindAt cs s)) ∧ Y.cell? ⟨Z.heap.size, 1, none⟩ = some (.string (textAt cs s))) ⟨HZ.out.alloc _, cell_last _ _ _ _, cell_last _ _ _ _⟩ ?fc
              rintro Y ⟨hPY, y0, y1⟩
              obtain ⟨t0, t1⟩ := hPY.toks s (by omega)
              have HY := show Hid _ from hPY
              clear hPY HZ
              go_quiet (fail)
              go_wp2
              go_roundg (gk - 1)
              case measure => omega
              case rel =>
                refine ⟨s + 1, by omega, by go_num, ?_⟩
                have e1 : (if kindAt cs s = 0 then s else s + 1) = min (s + 1) e := by
                  rcases Nat.lt_or_eq_of_le hse with h | h
                  · rw [if_neg (HN.out s h), Nat.min_eq_left (by omega)]
                  · rw [h, if_pos HK0.out, Nat.min_eq_right (by omega)]
                rw [← e1]
                exact HY.out.drewN _
            · have hse : e < s := by omega
              have hP := HP.out
              rw [Nat.min_eq_right (Nat.le_of_lt hse)] at hP
              have r0 := hP.p0
              have r1 := hP.p1
              obtain ⟨t0, t1⟩ := hP.toks e (by omega)
              have HP' := show Hid _ from hP
              clear hP HP
              go_wp2_with fail
              refine (next_any p g (kl + 1) (kl + 1) e (kindAt cs e) (textAt cs e) _ (by omega) (by omega) HP'.out.ty r0 r1 t0 t1).mono ?_
              rintro _ Z ⟨rfl, hZU, hZ1⟩
              have hPZ := HP'.out.next hZU hZ1
              have HZ := show Hid _ from hPZ
              clear hPZ hZU hZ1 r0 r1 t0 t1 HP'
              go_upto_region 18 with fail
              refine forget_world (fun Y => Pars w Y cs (kl + 1) g p (if kindAt cs e = 0 then e else e + 1) ∧ Y.cell? ⟨Z.heap.size, 0, none⟩ = some (.int .u8 (kindAt cs e)) ∧ Y.cell? ⟨Z.heap.size, 1, none⟩ = some (.string (textAt cs e))) ⟨HZ.out.alloc _, cell_last _ _ _ _, cell_last _ _ _ _⟩ ?fd
              rintro Y ⟨hPY, y0, y1⟩
              obtain ⟨t0, t1⟩ := hPY.toks e (by omega)
              have HY := show Hid _ from hPY
              clear hPY HZ
              go_quiet (fail)
              go_wp2
              go_roundg (gk - 1)
              case measure => omega
              case rel =>
                refine ⟨s + 1, by omega, by go_num, ?_⟩
                have e1 : (if kindAt cs e = 0 then e else e + 1) = min (s + 1) e := by
                  rw [if_pos HK0.out, Nat.min_eq_right (by omega)]
                rw [← e1]
                exact HY.out.drewN _
          · have hP := HP.out
            rw [Nat.min_eq_right (by omega)] at hP
            have r1 := hP.p1
            have HB : Hid (Below w.heap.size w _) := hP.un.below _ (Nat.le_refl _) (fun _ _ h => h.elim)
            clear hP HP
            go_wp2
            go_ret
            exact ⟨rfl, HB.out⟩
      · have hlt : e < kl := by
          rcases Nat.lt_or_eq_of_le hle with h | h
          · exact h
          · subst h; exact absurd HK.out hK0
        go_wp2
        go_roundg (gk - 1)
        case measure => omega
        case rel =>
          refine ⟨e + 1, by omega, by go_num, rfl, by omega, fun j hj => ?_⟩
          rcases Nat.lt_or_eq_of_le (Nat.le_of_lt_succ hj) with h | h
          · exact HN.out j h
          · subst h; exact hK0
end Go.Proofs.Ybulkclvu.Sql
