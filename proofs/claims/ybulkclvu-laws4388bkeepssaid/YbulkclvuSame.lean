/- zzs4388bsame: two rows of the same requests. -/
import Derived.Test.YbulkclvuAddOwn
import Derived.BigQuiet
import Derived.Deep.QuietTactic
import Derived.Deep.LoopGhost
namespace Go.Proofs.Ybulkclvu.Own
set_option linter.unusedVariables false
open Go.RowKit Go.Proofs.Ybulkclvu.Mem

theorem neq_req (a : Addr) (w : World) : (binOp .neq 28 (.pointer (some a)) (.pointer (some a))).run Yba.prog w = .ok (.bool false) w := by
  obtain ⟨j, hj⟩ := Option.isSome_iff_exists.1 (show (Yba.prog.info? 67).isSome = true by kernel_rfl)
  have h : ∀ d : Nat, (Op.equalIn (d + 1) 28 (.pointer (some a)) (.pointer (some a))).run Yba.prog w = .ok true w := fun d => by
    simp [Op.equalIn, run_underlying Yba.underlying28, sizeOf, typeInfo, hj, run_sameAddr_same]
  simp only [binOp]
  simp [Op.equal, Op.maxDepth, h 9999]

theorem own_form {W : World} {B n : Nat} {v : Value} {l : List Nat} (h : W.ownsRow B 28 1 v n (l.map ptr)) (hn : l.length = n) :
    ∃ a c, v = .slice a n c ∧ (n = 0 ∨ ∃ g, a = some ⟨g, 0, none⟩ ∧ ∀ i, i < n → W.cell? ⟨g, i, none⟩ = some (.pointer (some ⟨l.getD i 0, 0, none⟩))) := by
  rcases h.2 with ⟨rfl, rfl⟩ | ⟨g, cap, cur, rfl, hb, hg, h1, h2, h3, h4⟩
  · exact ⟨_, _, rfl, .inl rfl⟩
  · refine ⟨_, _, rfl, .inr ⟨g, rfl, fun i hi => ?_⟩⟩
    rw [cell_of_row _ g i cur 28 (0, 0) hg]
    have e : (cur.toList.take (n * 1))[i]? = (l.map ptr)[i]? := by rw [h4]
    rw [List.getElem?_take, if_pos (by omega), Array.getElem?_toList] at e
    rw [e, List.getElem?_map, List.getElem?_eq_getElem (by omega), List.getD_eq_getElem?_getD, List.getElem?_eq_getElem (by omega)]
    rfl

set_option maxRecDepth 8000 in
theorem same_any (W : World) (B : Nat) (v1 v2 : Value) (l : List Nat) (hl : l.length ≤ 2000) (h1 : W.ownsRow B 28 1 v1 l.length (l.map ptr)) (h2 : W.ownsRow B 28 1 v2 l.length (l.map ptr)) :
    Calls Yba.prog 8 #[v1, v2] W fun e W' => e = .returned (.bool true) ∧ ∃ m, W' = W.drewN m := by
  obtain ⟨a1, c1, rfl, f1⟩ := own_form h1 rfl
  obtain ⟨a2, c2, rfl, f2⟩ := own_form h2 rfl
  obtain ⟨n, hn⟩ : ∃ n, n = l.length := ⟨_, rfl⟩
  rw [← hn] at f1 f2 hl ⊢
  have F1 := show Hid _ from f1
  have F2 := show Hid _ from f2
  clear f1 f2 h1 h2 hn
  have hne := neq_req
  go_enter Yba.func8, Yba.ntmps8
  go_wp2_with fail
  go_loopg [13] n (fun gk i wr => ∃ k nd, k + gk = n ∧ i = .int .i64 ((k : Nat) : Int) ∧ wr = W.drewN nd)
  case atStart => exact ⟨0, 0, by omega, rfl, rfl⟩
  case round =>
    obtain ⟨k, nd, hk, rfl, rfl⟩ := hrel
    by_cases hlt : k < n
    · obtain ⟨g1, rfl, r1⟩ := F1.out.resolve_left (by omega)
      obtain ⟨g2, rfl, r2⟩ := F2.out.resolve_left (by omega)
      have r1 := r1 k hlt
      have r2 := r2 k hlt
      go_wp2
      go_quiet (fail)
      go_wp2
      go_roundg (gk - 1)
      case measure => omega
      case rel => exact ⟨k + 1, _, by omega, by go_num, rfl⟩
    · go_wp2
      go_ret
      exact ⟨rfl, _, rfl⟩
end Go.Proofs.Ybulkclvu.Own
