/- LawS4388BOrder's walk. -/
import Derived.Test.YbulkclvuLaw
namespace Go.Proofs.Ybulkclvu.Own
set_option linter.unusedVariables false
open Go.RowKit Go.Proofs.Ybulkclvu.Mem

/-- A slice of bytes that came in: what a walk reads of it. -/
def Kv (w : World) (a : Option Addr) (n : Nat) : Prop := n = 0 ∨ ∃ b off, a = some ⟨b, off, none⟩ ∧ ∀ i, i < n → ∃ z, w.cell? ⟨b, off + i, none⟩ = some (.int .u8 z) ∧ 0 ≤ z ∧ z ≤ 255

theorem run_len_map {W : World} {r : Nat} {es : Array MapEntry} {clk : Nat} (hm : W.heap[r]? = some (.map es clk)) : (Builtin.len_ #[53] 3 #[.map (some r)]).run Yba.prog W = .ok (.int .i64 es.size) W := by
  have hg : (getObj r).run Yba.prog W = .ok (.map es clk) W := by simp [getObj, Sem.run, hm]
  simp [Builtin.len_, run_underlying Yba.underlying53, hg]
  rfl

/-- How many keys below q there are. -/
def cnt (K : Nat → Bool) : Nat → Nat
  | 0 => 0
  | q + 1 => cnt K q + (K q).toNat

theorem cnt_le (K : Nat → Bool) : ∀ q, cnt K q ≤ q
  | 0 => Nat.le_refl _
  | q + 1 => by
    have := cnt_le K q
    have : (K q).toNat ≤ 1 := by cases K q <;> decide
    simp only [cnt]
    omega

/-- The relation of the first loop, k requests made. -/
def Rel (m : Nat) (w W : World) (xb tb mb : Nat) (T : Nat → Nat) (k : Nat) : Prop :=
  ∃ mr ks K M V L, LS m w W xb tb mb mr ks T K M V L L ∧ (∀ t, t < 3 → (L t).length ≤ k + 3) ∧ (∀ t, t < m → (K t = true ↔ L t ≠ [])) ∧ (mr = none ↔ k = 0)

theorem size_at (w : World) (o : Obj) : (w.alloc o).heap.size = w.heap.size + 1 := by simp
theorem new_at (w : World) (o : Obj) (i : Nat) (h : i = w.heap.size) : (w.alloc o).heap[i]? = some o := by
  subst h
  exact heap_alloc_new _ _
theorem old_at (w : World) (o : Obj) (i : Nat) (h : i < w.heap.size) : (w.alloc o).heap[i]? = w.heap[i]? := Below.heap_alloc _ _ _ h
theorem made_at (z : Value) (n t : Nat) (ht : t < n) : (madeCells #[z] n)[t]? = some z := by
  rw [← Array.getElem?_toList, toList_madeCells_one, List.getElem?_replicate, if_pos ht]

/-- How it starts. -/
theorem ls_start (w : World) (Z X : Array Value) (hX : X[0]? = some (.map none)) :
    LS 3 w ((((((w.alloc (.cells Z 49)).alloc (.cells Z 49)).alloc (.cells Z 49)).alloc (.cells #[.pointer (some ⟨w.heap.size, 0, none⟩), .pointer (some ⟨w.heap.size + 1, 0, none⟩), .pointer (some ⟨w.heap.size + 1 + 1, 0, none⟩)] 23)).alloc (.cells (madeCells #[.slice none 0 0] 3) 26)).alloc (.cells X 59))
      (w.heap.size + 5) (w.heap.size + 3) (w.heap.size + 4) none [] (fun t => w.heap.size + t) (fun _ => false) (fun _ => .slice none 0 0) (fun _ => .slice none 0 0) (fun _ => []) (fun _ => []) := by
  generalize hW : (((((w.alloc (.cells Z 49)).alloc (.cells Z 49)).alloc (.cells Z 49)).alloc (.cells #[.pointer (some ⟨w.heap.size, 0, none⟩), .pointer (some ⟨w.heap.size + 1, 0, none⟩), .pointer (some ⟨w.heap.size + 1 + 1, 0, none⟩)] 23)).alloc (.cells (madeCells #[.slice none 0 0] 3) 26)).alloc (.cells X 59) = W
  have h0 : W.heap[w.heap.size]? = some (.cells Z 49 (0, 0)) := by rw [← hW, old_at _ _ _ (by simp only [size_at]; omega), old_at _ _ _ (by simp only [size_at]; omega), old_at _ _ _ (by simp only [size_at]; omega), old_at _ _ _ (by simp only [size_at]; omega), old_at _ _ _ (by simp only [size_at]; omega), new_at _ _ _ rfl]
  have h1 : W.heap[w.heap.size + 1]? = some (.cells Z 49 (0, 0)) := by rw [← hW, old_at _ _ _ (by simp only [size_at]; omega), old_at _ _ _ (by simp only [size_at]; omega), old_at _ _ _ (by simp only [size_at]; omega), old_at _ _ _ (by simp only [size_at]; omega), new_at _ _ _ (by simp only [size_at])]
  have h2 : W.heap[w.heap.size + 2]? = some (.cells Z 49 (0, 0)) := by rw [← hW, old_at _ _ _ (by simp only [size_at]; omega), old_at _ _ _ (by simp only [size_at]; omega), old_at _ _ _ (by simp only [size_at]; omega), new_at _ _ _ (by simp only [size_at])]
  have h3 : W.heap[w.heap.size + 3]? = some (.cells #[.pointer (some ⟨w.heap.size, 0, none⟩), .pointer (some ⟨w.heap.size + 1, 0, none⟩), .pointer (some ⟨w.heap.size + 1 + 1, 0, none⟩)] 23 (0, 0)) := by rw [← hW, old_at _ _ _ (by simp only [size_at]; omega), old_at _ _ _ (by simp only [size_at]; omega), new_at _ _ _ (by simp only [size_at])]
  have h4 : W.heap[w.heap.size + 4]? = some (.cells (madeCells #[.slice none 0 0] 3) 26 (0, 0)) := by rw [← hW, old_at _ _ _ (by simp only [size_at]; omega), new_at _ _ _ (by simp only [size_at])]
  have h5 : W.heap[w.heap.size + 5]? = some (.cells X 59 (0, 0)) := by rw [← hW, new_at _ _ _ (by simp only [size_at])]
  have hs : Same (fun _ => False) w W := by
    rw [← hW]
    exact ((((((Same.refl _ w).alloc _).alloc _).alloc _).alloc _).alloc _).alloc _
  have hq : ∀ t, t < 3 → Ty W (w.heap.size + t) 49 := fun t ht => by
    rcases (show t = 0 ∨ t = 1 ∨ t = 2 by omega) with e | e | e
    · subst e; exact ⟨Z, h0⟩
    · subst e; exact ⟨Z, h1⟩
    · subst e; exact ⟨Z, h2⟩
  exact {
    que := {
      tx := hq
      inj := fun s t _ _ e => by simpa using e
      xty := ⟨X, h5⟩
      x0 := by rw [cell_of_row _ _ _ _ _ _ h5]; exact hX
      mp := fun r e => by cases e
      mn := fun _ => rfl
      sub := fun s e => by simp at e
      nd := List.nodup_nil
      key := fun s _ => by simp
      abs := fun _ _ _ => rfl
      len := by simp
      own := fun s _ => World.ownsRow_nil _ _ _ _
      apart := fun s t _ _ _ g e => by simp [Value.ownBlock] at e }
    same := hs
    tty := ⟨_, h3⟩
    tbl := fun t ht => by
      rw [cell_of_row _ _ _ _ _ _ h3]
      rcases (show t = 0 ∨ t = 1 ∨ t = 2 by omega) with e | e | e
      · subst e; rfl
      · subst e; rfl
      · subst e; rfl
    mty := ⟨_, h4⟩
    mnew := by omega
    xnew := by omega
    rnew := fun r e => by cases e
    mcell := fun t ht => by
      rw [cell_of_row _ _ _ _ _ _ h4]
      exact made_at _ 3 t ht
    mown := fun s _ => World.ownsRow_nil _ _ _ _
    apM := fun s t _ _ _ g e => by simp [Value.ownBlock] at e
    apV := fun s t _ _ g e => by simp [Value.ownBlock] at e }

set_option maxRecDepth 8000 in
set_option maxHeartbeats 4000000 in
theorem order_any (a0 : Option Addr) (n cap : Nat) (w : World) (hk : Hid (Kv w a0 n)) :
    Calls Yba.prog 3 #[.slice a0 n cap] w fun e w' => e = .returned (.bool true) ∧ Below w.heap.size w w' := by
  obtain ⟨Z, hZ⟩ := zero49
  have hmm : ∀ w, (Instr.makeSlice 51 (.int .i64 3) (.int .i64 3)).run Yba.prog w = .ok (.slice (some ⟨w.heap.size, 0, none⟩) 3 3) (w.alloc (.cells (madeCells #[.slice none 0 0] 3) 26)) := make_model 3 (by omega)
  obtain ⟨i28, hi28, hz0, hz1, hz2⟩ := info_parts info28
  go_enter Yba.func3, Yba.ntmps3
  by_cases hn : 1024 < n
  · go_wp2
    go_ret
    exact ⟨rfl, Below.refl _ _⟩
  · have hn' : n ≤ 1024 := by omega
    clear hn
    go_upto_region 6 with fail
    refine forget_world (fun W => Rel 3 w W (w.heap.size + 5) (w.heap.size + 3) (w.heap.size + 4) (fun t => w.heap.size + t) 0) ?ra ?rb
    case ra =>
      refine ⟨none, [], fun _ => false, fun _ => .slice none 0 0, fun _ => .slice none 0 0, fun _ => [], ?_, fun _ _ => by simp, fun _ _ => by simp, by simp⟩
      exact ls_start w Z _ rfl
    intro W0 hW0
    obtain ⟨xb, hxb⟩ : ∃ b, b = w.heap.size + 5 := ⟨_, rfl⟩
    obtain ⟨tb, htb⟩ : ∃ b, b = w.heap.size + 3 := ⟨_, rfl⟩
    obtain ⟨mb, hmb⟩ : ∃ b, b = w.heap.size + 4 := ⟨_, rfl⟩
    obtain ⟨T, hT⟩ : ∃ b, b = fun t => w.heap.size + t := ⟨_, rfl⟩
    rw [← hxb, ← htb, ← hmb, ← hT] at hW0
    have e1 : w.heap.size + 1 + 1 + 1 = tb := by omega
    have e2 : w.heap.size + 1 + 1 + 1 + 1 = mb := by omega
    have e3 : w.heap.size + 1 + 1 + 1 + 1 + 1 = xb := by omega
    rw [e3, e2, e1]
    have HW : Hid (Rel 3 w W0 xb tb mb T 0) := hW0
    clear hW0 hxb htb hmb hT e1 e2 e3 hZ hmm
    go_wp2_with fail
    go_loopg [24] n (fun gk i wr => ∃ k, k + gk = n ∧ i = .int .i64 ((k : Nat) : Int) ∧ Rel 3 w wr xb tb mb T k)
    case atStart => exact ⟨0, by omega, rfl, HW.out⟩
    case round =>
      obtain ⟨k, hkg, rfl, mr, ks, K, M, V, L, hLS, hlen, hkey, hmr⟩ := hrel
      have H := show Hid _ from hLS
      have HL := show Hid _ from hlen
      have HK := show Hid _ from hkey
      have HM := show Hid _ from hmr
      clear hLS hlen hkey hmr
      by_cases hlt : k < n
      · obtain ⟨kb, koff, rfl, hkc⟩ := hk.out.resolve_left (by omega)
        obtain ⟨z, hz, hz3, hz4⟩ := hkc k hlt
        have hzr : wr.cell? ⟨kb, koff + k, none⟩ = some (.int .u8 z) := H.out.same.cell hz id
        obtain ⟨t, htz⟩ : ∃ t : Nat, z % 3 = t := ⟨(z % 3).toNat, by omega⟩
        have ht : t < 3 := by omega
        have hti : (t : Int) < 3 := by omega
        clear hkc hz
        have ht1 := H.out.tbl t ht
        have htl : tb < wr.heap.size := World.block_lt_of_cell? _ _ ht1
        go_wp2_with fail
        refine (addOwn_any _ w.heap.size xb mr ks T K V L t wr.heap.size ht (H.out.que.keepNew ((Same.refl _ _).alloc _)) (by have := HL.out t ht; omega) (Nat.le_trans H.out.same.size (by simp)) (Ty.new _ _ _) (cell_last _ _ _ _)).mono ?_
        rintro e W1 ⟨rfl, hAdd⟩
        obtain ⟨r, ks', v, hLS1, hsz⟩ := ls_added ht (H.out.keepNew ((Same.refl _ _).alloc _)) hAdd
        have H1 := show Hid _ from hLS1
        have hrb : wr.heap.size < W1.heap.size := by simp at hsz; omega
        clear hAdd hLS1 hsz
        have hm1 := H1.out.mcell t ht
        have hml : mb < W1.heap.size := World.block_lt_of_cell? _ _ hm1
        go_wp2_with (at_builtin; refine wpList_append_lies _ rfl (.tmp 48) (.tmp 50) 26 rfl w.heap.size 28 i28 (.pointer none) 1 8 Yba.underlying26 hi28 hz0 hz1 hz2 rfl (by decide) (M t) (L t).length ((L t).map ptr) rfl ?ma ⟨W1.heap.size, 0, none⟩ 1 1 [.pointer (some ⟨wr.heap.size, 0, none⟩)] rfl rfl ?mb ?mc (by decide) ?md ?me ?mf _ rfl ?mg)
        case ma => exact (H1.out.mown t ht).alloc _
        case mb => exact cell_one_new W1 _ 28
        case mc =>
          intro u hu
          simp at hu
          subst hu
          rfl
        case md => have := HL.out t ht; unfold maxLen; omega
        case me => have := HL.out t ht; omega
        case mf => have := H1.out.same.size; simp; omega
        intro g cap' w2 hown hgrow hat hlt2
        obtain ⟨hS2, hLS2⟩ := ls_model (rb := wr.heap.size) ht (by omega) H1.out ((Same.refl _ _).alloc _) hgrow hown (by simpa using hat)
        have hmne : (M t).ownBlock ≠ some mb := fun e => (own_ty (H1.out.mown t ht) e).ne H1.out.mty (by decide) rfl
        have hc2 := hS2.cell hm1 hmne
        have hf2 := (hS2.ty H1.out.mty hmne).frozen t
        have H2 := show Hid _ from hLS2
        clear hown hgrow hat hLS2 hS2 hm1
        go_wp2
        go_roundg (gk - 1)
        case measure => omega
        case rel =>
          refine ⟨k + 1, by omega, by go_num, _, _, _, _, _, _, H2.out, ?_, ?_, ?_⟩
          · intro s hs
            have := HL.out s hs
            by_cases e : s = t
            · subst e
              rw [upd_same]
              simp
              omega
            · rw [upd_other _ _ e]
              omega
          · intro s hs
            by_cases e : s = t
            · subst e
              rw [upd_same, upd_same]
              simp
            · rw [upd_other _ _ e, upd_other _ _ e]
              exact HK.out s hs
          · simp
      · obtain rfl : k = n := by omega
        by_cases hn0 : k = 0
        · obtain rfl := HM.out.2 hn0
          have x0 := H.out.que.x0
          have hyes := map_yes
          subst hn0
          go_wp2
          go_ret
          exact ⟨rfl, H.out.same.below (Nat.le_refl _) (fun _ h => h.elim)⟩
        · obtain ⟨r, rfl⟩ : ∃ r, mr = some r := by
            cases mr with
            | none => exact absurd (HM.out.1 rfl) hn0
            | some r => exact ⟨r, rfl⟩
          have x0 := H.out.que.x0
          have hxl : xb < wr.heap.size := World.block_lt_of_cell? _ _ x0
          go_wp2_with fail
          go_loopg [10, 11] 3 (fun gk d i W => ∃ q, q + gk = 3 ∧ i = .int .i64 ((q : Nat) : Int) ∧ d = .int .i64 ((cnt K q : Nat) : Int) ∧ LS 3 w W xb tb mb (some r) ks T K M V L L)
          case atStart => exact ⟨0, by omega, rfl, rfl, H.out⟩
          case round =>
            obtain ⟨q, hq, rfl, rfl, hLS'⟩ := hrel
            clear H x0 hxl
            have x0 := hLS'.que.x0
            have H := show Hid _ from hLS'
            clear hLS'
            by_cases hq3 : q < 3
            · obtain ⟨am, cm, hM, _⟩ := own_form (H.out.mown q hq3) rfl
              have c1 := H.out.mcell q hq3
              have c2 := H.out.tbl q hq3
              rw [hM] at c1
              have lk : ∀ n, (Instr.lookup 53 (.map (some r)) (.pointer (some ⟨T q, 0, none⟩)) false).run Yba.prog (wr.drewN n) = .ok (V q) (wr.drewN n) := fun n => (H.out.que.keepNew (drewN_same wr n)).look hq3
              have hMo := H.out.mown q hq3
              rw [hM] at hMo
              have hcl := cnt_le K q
              have hll := HL.out q hq3
              by_cases hp : 0 < (L q).length
              · have hKq : K q = true := (HK.out q hq3).2 (by intro e; rw [e] at hp; simp at hp)
                go_wp2
                go_quiet (refine Calls.quiet_of (same_any _ w.heap.size _ _ (L q) (by have := HL.out q hq3; omega) ((drewN_same wr _).owns (H.out.que.own q hq3) (fun _ _ => id)) ((drewN_same wr _).owns hMo (fun _ _ => id))))
                go_wp2
                go_roundg (gk - 1)
                case measure => omega
                case rel => exact ⟨q + 1, by omega, by go_num, by rw [cnt, hKq]; simp, H.out.keepNew (drewN_same _ _)⟩
              · have hl0 : (L q).length = 0 := by omega
                have hKq : K q = false := by
                  cases e : K q with
                  | false => rfl
                  | true => exact absurd (List.eq_nil_of_length_eq_zero hl0) ((HK.out q hq3).1 e)
                have hLq : L q = [] := List.eq_nil_of_length_eq_zero hl0
                have hVo := H.out.que.own q hq3
                rw [hLq] at hVo hMo c1
                have HV := show Hid _ from hVo
                have HO := show Hid _ from hMo
                clear hVo hMo hl0 hp hll hLq
                go_wp2
                go_quiet (refine Calls.quiet_of (same_any _ w.heap.size _ _ [] (by simp) ((drewN_same wr _).owns HV.out (fun _ _ => id)) ((drewN_same wr _).owns HO.out (fun _ _ => id))))
                go_wp2
                go_roundg (gk - 1)
                case measure => omega
                case rel => exact ⟨q + 1, by omega, by go_num, by rw [cnt, hKq]; simp, H.out.keepNew (drewN_same _ _)⟩
            · obtain rfl : q = 3 := by omega
              obtain ⟨es, clk, hm, hk1, _⟩ := H.out.que.mp r rfl
              have hes : es.size = cnt K 3 := by
                have e := congrArg List.length hk1
                simp at e
                rw [e, H.out.que.len]
                simp [cnt]
              have hln := run_len_map hm
              rw [hes] at hln
              go_wp2
              go_ret
              exact ⟨rfl, H.out.same.below (Nat.le_refl _) (fun _ h => h.elim)⟩

end Go.Proofs.Ybulkclvu.Own
