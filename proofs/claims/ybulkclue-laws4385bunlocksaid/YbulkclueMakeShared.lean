/- The law's own making of the locks: shared ones, and the model of their list. -/
import Derived.Test.YbulkclueMakeExcl
namespace Go.Proofs.Ybulkclue.Law
set_option linter.unusedVariables false
set_option linter.unusedSimpArgs false
set_option maxRecDepth 100000
open Go.RowKit Go.Proofs.Ybulkclue.Leaves Go.Proofs.Ybulkclue.Forget Go.Proofs.Ybulkclue.Mem Go.Proofs.Ybulkclue.Steps Go.Proofs.Ybulkclue.Join

theorem info34 : (Yba.prog.info? 34).map (fun i => (i.zero, i.size, i.bytes)) = some (some (.pointer none), 1, 8) := by kernel_rfl
theorem size34 : (Yba.prog.info? 34).map (·.size) = some 1 := by kernel_rfl
theorem make_locks (n : Nat) (hn : n ≤ 100) (w : World) :
    (Instr.makeSlice 44 (.int .i64 (1 + (n : Int))) (.int .i64 (1 + (n : Int)))).run Yba.prog w = .ok (.slice (some ⟨w.heap.size, 0, none⟩) (n + 1) (n + 1)) (w.alloc (.cells (madeCells #[.pointer none] (n + 1)) 34)) := by
  obtain ⟨i, hi, hz0, hz1, hz2⟩ := info_parts info34
  have hr := run_make (P := Yba.prog) w 44 34 i (.pointer none) Yba.underlying44 hi hz0 .i64 .i64 (1 + (n : Int)) (1 + (n : Int)) (by omega) (by omega) (by rw [hz2]; omega) (by omega)
  rw [hr, hz1]
  have e : (1 + (n : Int)).toNat = n + 1 := by omega
  rw [e, Nat.mul_one]
  rfl

theorem locks_step {w wr : World} {ib q gk mm : Nat} {cs : Array Value} (hU : Un (fun _ _ => False) w wr) (hsz : wr.heap.size = w.heap.size + 1 + 2 * q) (hcs : wr.heap[w.heap.size]? = some (.cells cs 34 (0, 0))) (hcn : cs.size = mm + 1)
    (hcj : ∀ j, j < q → cs[j]? = some (.pointer (some ⟨w.heap.size + 2 * j + 2, 0, none⟩)))
    (hlk : ∀ j, j < q → ∃ t, wr.heap[w.heap.size + 2 * j + 2]? = some (.cells #[t, .pointer (some ⟨ib, 0, none⟩), .int .u8 1, .int .i64 j, .pointer none] 50 (0, 0))) (hq : q + gk = mm + 1) (hlt : q < mm + 1) (t : Array Value) (t0 : Value) :
    let W := ((wr.setCell ⟨w.heap.size, q, none⟩ (.pointer (some ⟨wr.heap.size + 1, 0, none⟩))).alloc (.cells t 54)).alloc (.cells #[t0, .pointer (some ⟨ib, 0, none⟩), .int .u8 1, .int .i64 q, .pointer none] 50)
    ∃ q' : Nat, q' + (gk - 1) = mm + 1 ∧ Value.int .i64 ((q : Int) + 1) = .int .i64 q' ∧ Un (fun _ _ => False) w W ∧ W.heap.size = w.heap.size + 1 + 2 * q' ∧
      (∃ cs, W.heap[w.heap.size]? = some (.cells cs 34 (0, 0)) ∧ cs.size = mm + 1 ∧ ∀ j, j < q' → cs[j]? = some (.pointer (some ⟨w.heap.size + 2 * j + 2, 0, none⟩))) ∧
      ∀ j, j < q' → ∃ t, W.heap[w.heap.size + 2 * j + 2]? = some (.cells #[t, .pointer (some ⟨ib, 0, none⟩), .int .u8 1, .int .i64 j, .pointer none] 50 (0, 0)) := by
  intro W
  have hs1 : (wr.setCell ⟨w.heap.size, q, none⟩ (.pointer (some ⟨wr.heap.size + 1, 0, none⟩))).heap.size = wr.heap.size := by simp
  have hs2 : ((wr.setCell ⟨w.heap.size, q, none⟩ (.pointer (some ⟨wr.heap.size + 1, 0, none⟩))).alloc (.cells t 54)).heap.size = wr.heap.size + 1 := by simp
  have hold : ∀ b, b < wr.heap.size → W.heap[b]? = (wr.setCell ⟨w.heap.size, q, none⟩ (.pointer (some ⟨wr.heap.size + 1, 0, none⟩))).heap[b]? := fun b hb => by
    rw [Below.heap_alloc _ _ _ (by rw [hs2]; omega), Below.heap_alloc _ _ _ (by rw [hs1]; omega)]
  refine ⟨q + 1, by omega, by simp, ((hU.setNew (Nat.le_refl _) _).alloc _).alloc _, by simp [W]; omega, ⟨cs.setIfInBounds q (.pointer (some ⟨wr.heap.size + 1, 0, none⟩)), ?_, by simpa using hcn, ?_⟩, ?_⟩
  · rw [hold _ (by omega)]
    exact heap_setCell_same _ _ _ _ _ _ hcs
  · intro j hj
    rw [Array.getElem?_setIfInBounds]
    by_cases e : q = j
    · subst e
      rw [if_pos rfl, if_pos (by omega), hsz]
      congr 4
      omega
    · rw [if_neg e]
      exact hcj j (by omega)
  · intro j hj
    by_cases e : j = q
    · subst e
      refine ⟨t0, ?_⟩
      have : w.heap.size + 2 * j + 2 = wr.heap.size + 1 := by omega
      rw [this, ← hs2]
      exact heap_alloc_new _ _
    · obtain ⟨t, ht⟩ := hlk j (by omega)
      refine ⟨t, ?_⟩
      rw [hold _ (by omega), Below.heap_setCell _ _ _ _ (by show _ ≠ w.heap.size; omega)]
      exact ht

/-- The list of the locks' pointers. -/
def lockList (S mm : Nat) : List Value := (List.range (mm + 1)).map fun j => .pointer (some ⟨S + 2 * j + 2, 0, none⟩)
theorem lockList_get {S mm j : Nat} {v : Value} (h : (lockList S mm)[j]? = some v) : j < mm + 1 ∧ v = .pointer (some ⟨S + 2 * j + 2, 0, none⟩) := by
  have hj : j < (lockList S mm).length := (List.getElem?_eq_some_iff.1 h).1
  have hj' : j < mm + 1 := by simpa [lockList] using hj
  refine ⟨hj', ?_⟩
  simp [lockList, hj'] at h
  exact h.symm
theorem lockList_at {S mm i : Nat} (hi : i ≤ mm) : (lockList S mm).toArray[i]? = some (.pointer (some ⟨S + 2 * i + 2, 0, none⟩)) := by
  rw [List.getElem?_toArray]
  unfold lockList
  rw [List.getElem?_map, List.getElem?_range (by omega)]
  rfl
theorem lockList_one {S mm : Nat} {v : Value} (h : v ∈ lockList S mm) : v.oneCell' = true := by
  simp [lockList] at h
  obtain ⟨j, _, rfl⟩ := h
  rfl
theorem addr_add0 (b j : Nat) : (⟨b, 0, none⟩ : Addr).add j = ⟨b, j, none⟩ := by unfold Addr.add; split <;> simp_all
theorem same_new (w : World) (o : Obj) (a : Addr) (v : Value) (h : w.cell? a = some v) : (w.alloc o).cell? a = some v := by
  rw [World.cell?_of_block (Below.heap_alloc _ _ _ (World.block_lt_of_cell? _ _ h))]; exact h

theorem Un_mono {T T' : Nat → Nat → Prop} {w V : World} (h : Un T w V) (k : ∀ b o, T b o → T' b o) : Un T' w V :=
  ⟨h.size, fun b o hb hn => h.cell b o hb (fun e => hn (k b o e)), h.ty, fun B hB hT => h.below B hB (fun b o e => hT b o (k b o e))⟩
theorem Un_rowSet {T : Nat → Nat → Prop} {w V V' : World} {g : Nat} (h : Un T w V) (r : RowSet g V V') (hg : w.heap.size ≤ g) : Un T w V' :=
  ⟨by rw [r.size]; exact h.size, fun b o hb hn => (World.cell?_of_block (a := ⟨b, o, none⟩) (r.other b (by omega))).trans (h.cell b o hb hn),
   fun b t ht => by
     have hl := ht.lt
     obtain ⟨cs, hc⟩ := h.ty b t ht
     exact ⟨cs, by rw [r.other b (by omega)]; exact hc⟩,
   fun B hB hT => (h.below B hB hT).trans ⟨r.os, r.tape, r.output, by rw [r.size]; exact Nat.le_refl _, fun b hb => r.other b (by omega)⟩⟩

theorem shared_ready {B : Nat} {w0 w wr W : World} {bb shb ib chb no p s : Nat} {c : Nat → Nat} {h sc : Int} {si0 sl0 : Nat} {mm k : Nat} {cs : Array Value} (C : Common w bb shb ib chb no p s c h sc si0 sl0) (A : Abv B bb shb no c) (hB : Below B w0 w) (hBs : B ≤ w.heap.size)
    (w4 : w.cell? ⟨ib, 4, none⟩ = some (.pointer none)) (hU : Un (fun _ _ => False) w wr) (hsz : wr.heap.size = w.heap.size + 1 + 2 * (mm + 1)) (hcs : wr.heap[w.heap.size]? = some (.cells cs 34 (0, 0))) (hcn : cs.size = mm + 1)
    (hcj : ∀ j, j < mm + 1 → cs[j]? = some (.pointer (some ⟨w.heap.size + 2 * j + 2, 0, none⟩)))
    (hlk : ∀ j, j < mm + 1 → ∃ t, wr.heap[w.heap.size + 2 * j + 2]? = some (.cells #[t, .pointer (some ⟨ib, 0, none⟩), .int .u8 1, .int .i64 j, .pointer none] 50 (0, 0))) (hk : k ≤ mm) (hm8 : mm < 8) (mc : Array Value) (x5 : Value)
    (hW : W.heap[wr.heap.size]? = some (.cells (lockList w.heap.size mm).toArray 34 (0, 0))) (hR : RowSet wr.heap.size ((wr.setCell ⟨ib, 5, none⟩ (.slice (some ⟨w.heap.size, 0, none⟩) (mm + 1) (mm + 1))).alloc (.cells mc 34)) W) (w5 : w.cell? ⟨ib, 5, none⟩ = some x5) :
    let V := W.setCell ⟨wr.heap.size, k, none⟩ (.pointer (some ⟨w.heap.size + 2 * mm + 2, 0, none⟩))
    Common V bb shb ib chb no p s c h sc si0 sl0 ∧ Below B w0 V ∧ B ≤ V.heap.size ∧ Shar V ib w.heap.size mm k (mm + 1) (fun i => w.heap.size + 2 * i + 2) ∧ B ≤ w.heap.size ∧ (∀ i, i ≤ mm → B ≤ w.heap.size + 2 * i + 2) ∧ Ty V wr.heap.size 34 ∧ wr.heap.size ≠ w.heap.size ∧
    (∀ i, i < mm → V.cell? ⟨wr.heap.size, i, none⟩ = some (.pointer (some ⟨left (fun i => w.heap.size + 2 * i + 2) mm k i, 0, none⟩))) ∧ Keeps36 w V := by
  intro V
  have hil := C.ti.lt
  have hiB : B ≤ ib := by rw [← C.cp]; exact A.c p C.hp
  have hUV : Un (fun b o => b = ib ∧ o = 5) w V := (Un_rowSet (((Un_mono hU (fun _ _ e => e.elim)).set ⟨rfl, rfl⟩ _).alloc _) hR (by omega)).setNew (by omega) _
  -- the blocks of the call's own, but for the item and the model
  have hblk : ∀ b, b < wr.heap.size → b ≠ ib → V.heap[b]? = wr.heap[b]? := fun b hb hn => by
    rw [Below.heap_setCell _ _ _ _ (by show b ≠ wr.heap.size; omega), hR.other b (by omega), Below.heap_alloc _ _ _ (by simpa using hb), Below.heap_setCell _ _ _ _ (by show b ≠ ib; exact hn)]
  have hrow : V.heap[w.heap.size]? = some (.cells cs 34 (0, 0)) := (hblk _ (by omega) (by omega)).trans hcs
  have hlock : ∀ i, i ≤ mm → ∃ t, V.heap[w.heap.size + 2 * i + 2]? = some (.cells #[t, .pointer (some ⟨ib, 0, none⟩), .int .u8 1, .int .i64 i, .pointer none] 50 (0, 0)) := fun i hi => by
    obtain ⟨t, ht⟩ := hlk i (by omega)
    exact ⟨t, (hblk _ (by omega) (by omega)).trans ht⟩
  have hlc : ∀ i o (v : Value), i ≤ mm → (∀ t : Value, (#[t, .pointer (some ⟨ib, 0, none⟩), .int .u8 1, .int .i64 i, .pointer none] : Array Value)[o]? = some v) → V.cell? ⟨w.heap.size + 2 * i + 2, o, none⟩ = some v := fun i o v hi hv => by
    obtain ⟨t, ht⟩ := hlock i hi
    rw [cell_of_row V _ o _ 50 (0, 0) ht]
    exact hv t
  have e5 : V.cell? ⟨ib, 5, none⟩ = some (.slice (some ⟨w.heap.size, 0, none⟩) (mm + 1) (mm + 1)) := by
    rw [far _ _ (by omega), World.cell?_of_block (a := ⟨ib, 5, none⟩) (hR.other ib (by omega))]
    exact same_new _ _ _ _ (hit (u := x5) _ _ ((hU.cell ib 5 hil (fun e => e)).trans w5))
  have hmod : V.heap[wr.heap.size]? = some (.cells ((lockList w.heap.size mm).toArray.setIfInBounds k (.pointer (some ⟨w.heap.size + 2 * mm + 2, 0, none⟩))) 34 (0, 0)) := heap_setCell_same _ _ _ _ _ _ hW
  refine ⟨C.keep hUV (fun b o e => .inl ⟨e.1, .inr e.2⟩), hB.trans (hUV.below B hBs (fun b o e => by rw [e.1]; exact hiB)), Nat.le_trans hBs hUV.size, ?_, hBs, fun i hi => by omega, ⟨_, hmod⟩, by omega, ?_, ?_⟩
  · refine { ti := hUV.ty _ _ C.ti, tr := ⟨_, hrow⟩, hk := hk, hm := hm8, hc := Nat.le_refl _, lk := ?_, rinj := fun i j _ _ e => by omega, a1 := fun i hi => hlc i 1 _ hi (fun _ => rfl), a2 := fun i hi => hlc i 2 _ hi (fun _ => rfl), a3 := fun i hi => hlc i 3 _ hi (fun _ => rfl), rd := ?_,
             a4 := (hUV.cell ib 4 hil (fun e => by omega)).trans w4, a5 := e5, a7 := (hUV.cell ib 7 hil (fun e => by omega)).trans C.i7 }
    · intro i hi
      obtain ⟨t, ht⟩ := hlock i hi
      exact ⟨⟨_, ht⟩, ⟨t, by rw [cell_of_row V _ 0 _ 50 (0, 0) ht]; rfl⟩, ⟨_, hlc i 1 _ hi (fun _ => rfl)⟩, ⟨_, hlc i 2 _ hi (fun _ => rfl)⟩, ⟨_, hlc i 3 _ hi (fun _ => rfl)⟩, ⟨_, hlc i 4 _ hi (fun _ => rfl)⟩⟩
    · intro i hi
      rw [cell_of_row V _ i _ 34 (0, 0) hrow]
      exact hcj i (by omega)
  · intro i hi
    rw [cell_of_row V _ i _ 34 (0, 0) hmod, Array.getElem?_setIfInBounds]
    unfold left
    by_cases e : k = i
    · subst e
      rw [if_pos rfl, if_pos (by simp [lockList]; omega), if_pos rfl]
    · rw [if_neg e, if_neg (fun h => e h.symm)]
      exact lockList_at (by omega)
  · intro b ht
    exact ⟨hUV.ty _ _ ht, fun o => hUV.cell _ _ ht.lt (fun e => ht.ne C.ti (by decide) e.1)⟩

set_option maxHeartbeats 4000000 in
theorem make_shared (B : Nat) (w0 w : World) (u3 u4 u5 u6 u7 u8 u9 u10 u11 u12 u13 u14 u15 u16 u17 u18 u21 u22 u23 u24 u25 u26 u27 u28 u29 u30 u31 u32 u33 u35 u36 u37 u38 u39 u40 u41 u42 u43 u44 u45 u46 u47 u48 u49 u50 u51 u52 u53 u54 u55 u56 u57 u58 u59 u60 u61 u62 u63 u64 u65 u66 u67 u68 u69 u70 u71 u72 u73 u74 u75 u76 u77 u78 u79 u80 u81 u82 u83 u84 u85 u86 u87 u88 u89 u90 u91 u92 u93 u94 u95 u96 u97 u98 u99 u100 u101 u102 u103 u104 u105 u106 u107 u108 u109 u110 u111 u112 u113 u114 u115 u116 u117 u118 u119 u120 u121 u122 u123 u124 u125 u126 u127 u128 u129 u130 u131 u132 u133 u134 u135 u136 u137 u138 u139 u140 u141 u142 u143 u144 u145 u146 u147 u148 u149 u150 u151 u152 u153 u154 u155 u156 u157 u158 u159 u160 u161 u162 u163 u164 u165 u166 u167 u168 u169 u170 u171 u172 u173 u174 u175 u176 u177 u178 u179 u180 u181 u182 u183 u184 u185 u186 u187 u188 u189 u190 u191 u192 u193 u194 u195 u196 u197 u198 u199 u200 u201 u202 u203 u204 u205 u206 u207 u208 u209 u210 u211 u212 u213 u214 u215 u216 u217 u218 u219 u220 u221 u222 u223 u224 u225 u226 u227 u228 u229 u230 u231 u232 u233 u234 u235 u236 u237 u238 u239 u240 u241 u242 u243 u244 u245 u246 u247 u248 u249 u250 u251 u252 u253 u254 u255 u256 u257 u258 u259 u260 u261 u262 u263 u264 u265 u266 u267 u268 u269 u270 u271 u272 u273 u274 u275 u276 u277 u278 u279 u280 u281 u282 u283 u284 u285 u286 u287 u288 u289 u290 u291 u292 u293 u294 u295 u296 u297 u298 u299 u300 u301 u302 u303 u304 u305 u306 u307 u308 u309 u310 u311 u312 u313 u314 u315 u316 u317 u318 u319 u320 u321 u322 u323 u324 u325 u326 u327 u328 u329 u330 u331 u332 u333 u334 u335 u336 u337 u338 u339 u340 u341 u342 u343 u344 u345 u346 u347 u348 u349 u350 u351 u352 u353 u354 u355 u356 u357 u358 u359 u360 u361 u362 u363 u364 u365 u366 u367 u368 u369 u370 u371 u372 u373 u374 u375 u376 u377 u378 u379 u380 u381 u382 u383 u384 u385 u386 u387 u388 u389 u390 u391 u392 u393 u394 u395 u396 u397 u398 u399 u400 u401 u402 u403 u404 u405 u406 u407 u408 u409 u410 u411 u412 u413 u414 u415 u416 u417 u418 u419 u420 u421 u422 u423 u424 u425 u426 u427 u428 u429 u430 u431 u432 u433 u434 u435 u436 u437 u438 u439 u440 u441 u442 u443 u444 u445 u446 u447 u448 u449 u450 u451 u452 u453 u454 u455 u456 u457 u458 u459 u460 u461 u462 u463 u464 u465 u466 u467 u468 u469 u470 u471 u472 u473 u474 u475 u476 u477 u478 u479 u480 u481 u482 u483 u484 u485 u486 u487 u488 u489 u490 u491 u492 u493 u494 u495 u496 u497 u498 u499 u500 u501 u502 u503 u504 u505 u506 u507 u508 u509 u510 u511 u512 u513 u514 u515 u516 u517 u518 u519 u520 u521 u522 u523 u524 u525 u526 u527 u528 u529 u530 u531 u532 u533 u534 u535 u536 : Value) (nr kq : Int) (kv : Value) (bb shb ib chb no p s : Nat) (c : Nat → Nat) (h sc : Int) (si0 sl0 : Nat) (mm k : Nat) (hnr0 : 0 ≤ nr) (hnr1 : nr ≤ 255) (hkq0 : 0 ≤ kq) (hkq1 : kq ≤ 255)
    (hmm : nr % 8 = (mm : Int)) (hk : kq % (1 + (mm : Int)) = (k : Int)) (hm8 : mm < 8) (hkm : k ≤ mm)
    (C : Common w bb shb ib chb no p s c h sc si0 sl0) (A : Abv B bb shb no c) (hB : Below B w0 w) (hBs : B ≤ w.heap.size)
    (w4 : w.cell? ⟨ib, 4, none⟩ = some (.pointer none)) (w5 : w.cell? ⟨ib, 5, none⟩ = some (.slice none 0 0))
    (hlast : Hid (∀ (w' : World) (x18 x38 x39 x40 x41 x42 x171 x172 x173 x174 x175 x176 x177 x178 x179 x180 x181 x182 x183 x184 x185 x186 x187 x188 x189 x190 x191 x192 x193 x194 x195 x196 x197 x198 x199 x200 x201 x202 x203 x204 x205 x206 x207 x208 x209 x210 x211 x212 x213 x214 x215 x216 x217 x218 x219 x220 x221 x222 x223 x224 x225 x226 x227 x228 x229 x230 x231 x232 x233 x234 x235 x236 x237 x238 x239 : Value) (rb mdb : Nat) (r : Nat → Nat), Common w' bb shb ib chb no p s c h sc si0 sl0 → Below B w0 w' → B ≤ w'.heap.size → Shar w' ib rb mm k (mm + 1) r → B ≤ rb → (∀ i, i ≤ mm → B ≤ r i) → Ty w' mdb 34 → mdb ≠ rb →
      (∀ i, i < mm → w'.cell? ⟨mdb, i, none⟩ = some (.pointer (some ⟨left r mm k i, 0, none⟩))) → Keeps36 w w' → ∀ (K : Act → World → Prop) (hK : ∀ a w, Code.wp Yba.prog (restOf 26 (Yba.f3.body.getD .skip)) (bodyPost Yba.prog Yba.f3 (fun e w' => e = .returned (.bool true) ∧ Below B w0 w')) a w → K a w), Code.wp Yba.prog (headOf (restOf 25 (Yba.f3.body.getD .skip))) (Exit.then K (bodyPost Yba.prog Yba.f3 (fun e w' => e = .returned (.bool true) ∧ Below B w0 w'))) ⟨#[.bool false, .int .u8 nr, .int .u8 kq, u3, u4, u5, u6, u7, u8, u9, u10, u11, u12, u13, u14, u15, u16, u17, x18, .pointer (some ⟨shb, 0, none⟩), .pointer (some ⟨ib, 0, none⟩), u21, u22, u23, u24, u25, u26, u27, u28, u29, u30, u31, u32, u33, kv, u35, .pointer (some ⟨(r k), 0, none⟩), .slice (some ⟨mdb, 0, none⟩) mm (mm + 1), x38, x39, x40, x41, x42, u43, u44, u45, u46, u47, u48, u49, u50, u51, u52, u53, u54, u55, u56, u57, u58, u59, u60, u61, u62, u63, u64, u65, u66, u67, u68, u69, u70, u71, u72, u73, u74, u75, u76, u77, u78, u79, u80, u81, u82, u83, u84, u85, u86, u87, u88, u89, u90, u91, u92, u93, u94, u95, u96, u97, u98, u99, u100, u101, u102, u103, u104, u105, u106, u107, u108, u109, u110, u111, u112, u113, u114, u115, u116, u117, u118, u119, u120, u121, u122, u123, u124, u125, u126, u127, u128, u129, u130, u131, u132, u133, u134, u135, u136, u137, u138, u139, u140, u141, u142, u143, u144, u145, u146, u147, u148, u149, u150, u151, u152, u153, u154, u155, u156, u157, u158, u159, u160, u161, u162, u163, u164, u165, u166, u167, u168, u169, u170, x171, x172, x173, x174, x175, x176, x177, x178, x179, x180, x181, x182, x183, x184, x185, x186, x187, x188, x189, x190, x191, x192, x193, x194, x195, x196, x197, x198, x199, x200, x201, x202, x203, x204, x205, x206, x207, x208, x209, x210, x211, x212, x213, x214, x215, x216, x217, x218, x219, x220, x221, x222, x223, x224, x225, x226, x227, x228, x229, x230, x231, x232, x233, x234, x235, x236, x237, x238, x239, u240, u241, u242, u243, u244, u245, u246, u247, u248, u249, u250, u251, u252, u253, u254, u255, u256, u257, u258, u259, u260, u261, u262, u263, u264, u265, u266, u267, u268, u269, u270, u271, u272, u273, u274, u275, u276, u277, u278, u279, u280, u281, u282, u283, u284, u285, u286, u287, u288, u289, u290, u291, u292, u293, u294, u295, u296, u297, u298, u299, u300, u301, u302, u303, u304, u305, u306, u307, u308, u309, u310, u311, u312, u313, u314, u315, u316, u317, u318, u319, u320, u321, u322, u323, u324, u325, u326, u327, u328, u329, u330, u331, u332, u333, u334, u335, u336, u337, u338, u339, u340, u341, u342, u343, u344, u345, u346, u347, u348, u349, u350, u351, u352, u353, u354, u355, u356, u357, u358, u359, u360, u361, u362, u363, u364, u365, u366, u367, u368, u369, u370, u371, u372, u373, u374, u375, u376, u377, u378, u379, u380, u381, u382, u383, u384, u385, u386, u387, u388, u389, u390, u391, u392, u393, u394, u395, u396, u397, u398, u399, u400, u401, u402, u403, u404, u405, u406, u407, u408, u409, u410, u411, u412, u413, u414, u415, u416, u417, u418, u419, u420, u421, u422, u423, u424, u425, u426, u427, u428, u429, u430, u431, u432, u433, u434, u435, u436, u437, u438, u439, u440, u441, u442, u443, u444, u445, u446, u447, u448, u449, u450, u451, u452, u453, u454, u455, u456, u457, u458, u459, u460, u461, u462, u463, u464, u465, u466, u467, u468, u469, u470, u471, u472, u473, u474, u475, u476, u477, u478, u479, u480, u481, u482, u483, u484, u485, u486, u487, u488, u489, u490, u491, u492, u493, u494, u495, u496, u497, u498, u499, u500, u501, u502, u503, u504, u505, u506, u507, u508, u509, u510, u511, u512, u513, u514, u515, u516, u517, u518, u519, u520, u521, u522, u523, u524, u525, u526, u527, u528, u529, u530, u531, u532, u533, u534, u535, u536], []⟩ w')) :
    ∀ (K : Act → World → Prop) (hK : ∀ a w, Code.wp Yba.prog (restOf 23 (Yba.f3.body.getD .skip)) (bodyPost Yba.prog Yba.f3 (fun e w' => e = .returned (.bool true) ∧ Below B w0 w')) a w → K a w), Code.wp Yba.prog (headOf (restOf 22 (Yba.f3.body.getD .skip))) (Exit.then K (bodyPost Yba.prog Yba.f3 (fun e w' => e = .returned (.bool true) ∧ Below B w0 w'))) ⟨#[.bool false, .int .u8 nr, .int .u8 kq, u3, u4, u5, u6, u7, u8, u9, u10, u11, u12, u13, u14, u15, u16, u17, u18, .pointer (some ⟨shb, 0, none⟩), .pointer (some ⟨ib, 0, none⟩), u21, u22, u23, u24, u25, u26, u27, u28, u29, u30, u31, u32, u33, kv, u35, u36, u37, u38, u39, u40, u41, u42, u43, u44, u45, u46, u47, u48, u49, u50, u51, u52, u53, u54, u55, u56, u57, u58, u59, u60, u61, u62, u63, u64, u65, u66, u67, u68, u69, u70, u71, u72, u73, u74, u75, u76, u77, u78, u79, u80, u81, u82, u83, u84, u85, u86, u87, u88, u89, u90, u91, u92, u93, u94, u95, u96, u97, u98, u99, u100, u101, u102, u103, u104, u105, u106, u107, u108, u109, u110, u111, u112, u113, u114, u115, u116, u117, u118, u119, u120, u121, u122, u123, u124, u125, u126, u127, u128, u129, u130, u131, u132, u133, u134, u135, u136, u137, u138, u139, u140, u141, u142, u143, u144, u145, u146, u147, u148, u149, u150, u151, u152, u153, u154, u155, u156, u157, u158, u159, u160, u161, u162, u163, u164, u165, u166, u167, u168, u169, u170, u171, u172, u173, u174, u175, u176, u177, u178, u179, u180, u181, u182, u183, u184, u185, u186, u187, u188, u189, u190, u191, u192, u193, u194, u195, u196, u197, u198, u199, u200, u201, u202, u203, u204, u205, u206, u207, u208, u209, u210, u211, u212, u213, u214, u215, u216, u217, u218, u219, u220, u221, u222, u223, u224, u225, u226, u227, u228, u229, u230, u231, u232, u233, u234, u235, u236, u237, u238, u239, u240, u241, u242, u243, u244, u245, u246, u247, u248, u249, u250, u251, u252, u253, u254, u255, u256, u257, u258, u259, u260, u261, u262, u263, u264, u265, u266, u267, u268, u269, u270, u271, u272, u273, u274, u275, u276, u277, u278, u279, u280, u281, u282, u283, u284, u285, u286, u287, u288, u289, u290, u291, u292, u293, u294, u295, u296, u297, u298, u299, u300, u301, u302, u303, u304, u305, u306, u307, u308, u309, u310, u311, u312, u313, u314, u315, u316, u317, u318, u319, u320, u321, u322, u323, u324, u325, u326, u327, u328, u329, u330, u331, u332, u333, u334, u335, u336, u337, u338, u339, u340, u341, u342, u343, u344, u345, u346, u347, u348, u349, u350, u351, u352, u353, u354, u355, u356, u357, u358, u359, u360, u361, u362, u363, u364, u365, u366, u367, u368, u369, u370, u371, u372, u373, u374, u375, u376, u377, u378, u379, u380, u381, u382, u383, u384, u385, u386, u387, u388, u389, u390, u391, u392, u393, u394, u395, u396, u397, u398, u399, u400, u401, u402, u403, u404, u405, u406, u407, u408, u409, u410, u411, u412, u413, u414, u415, u416, u417, u418, u419, u420, u421, u422, u423, u424, u425, u426, u427, u428, u429, u430, u431, u432, u433, u434, u435, u436, u437, u438, u439, u440, u441, u442, u443, u444, u445, u446, u447, u448, u449, u450, u451, u452, u453, u454, u455, u456, u457, u458, u459, u460, u461, u462, u463, u464, u465, u466, u467, u468, u469, u470, u471, u472, u473, u474, u475, u476, u477, u478, u479, u480, u481, u482, u483, u484, u485, u486, u487, u488, u489, u490, u491, u492, u493, u494, u495, u496, u497, u498, u499, u500, u501, u502, u503, u504, u505, u506, u507, u508, u509, u510, u511, u512, u513, u514, u515, u516, u517, u518, u519, u520, u521, u522, u523, u524, u525, u526, u527, u528, u529, u530, u531, u532, u533, u534, u535, u536], []⟩ w := by
  intro K hK
  conv at hK => enter [a, w, 1, 2]; whnf
  conv => arg 2; whnf
  have hil := C.ti.lt
  have hi0 : ∀ o, w.frozen? ⟨ib, o, none⟩ = false := C.ti.frozen
  have HC : Hid (Common w bb shb ib chb no p s c h sc si0 sl0) := C
  clear C
  have hmk := make_locks mm (by omega)
  go_upto_block 4 with fail
  go_wp2_with fail
  go_loopg [42] (mm + 1) (fun gk i wr => ∃ q : Nat, q + gk = mm + 1 ∧ i = .int .i64 q ∧ Un (fun _ _ => False) w wr ∧ wr.heap.size = w.heap.size + 1 + 2 * q ∧
    (∃ cs, wr.heap[w.heap.size]? = some (.cells cs 34 (0, 0)) ∧ cs.size = mm + 1 ∧ ∀ j, j < q → cs[j]? = some (.pointer (some ⟨w.heap.size + 2 * j + 2, 0, none⟩))) ∧
    ∀ j, j < q → ∃ t, wr.heap[w.heap.size + 2 * j + 2]? = some (.cells #[t, .pointer (some ⟨ib, 0, none⟩), .int .u8 1, .int .i64 j, .pointer none] 50 (0, 0)))
  case atStart =>
    refine ⟨0, by omega, rfl, (Un.refl _ w).alloc _, by simp, ⟨_, heap_alloc_new w _, size_madeCells _ _, ?_⟩, ?_⟩
    · intro j hj; omega
    · intro j hj; omega
  case round =>
    obtain ⟨q, hq, rfl, hU, hsz, ⟨cs, hcs, hcn, hcj⟩, hlk⟩ := hrel
    have HS : Hid (wr.heap.size = w.heap.size + 1 + 2 * q) := hsz
    have hWs : w.heap.size < wr.heap.size := by omega
    have HU : Hid (Un (fun _ _ => False) w wr) := hU
    have HL := show Hid _ from hlk
    have HJ := show Hid _ from hcj
    have HN : Hid (cs.size = mm + 1) := hcn
    have HH : Hid (wr.heap[w.heap.size]? = some (.cells cs 34 (0, 0))) := hcs
    clear hsz hU hlk hcj
    by_cases hlt : q < mm + 1
    · obtain ⟨x, hx⟩ : ∃ x, cs[q]? = some x := ⟨_, Array.getElem?_eq_getElem (by omega)⟩
      have hcell : wr.cell? ⟨w.heap.size, q, none⟩ = some x := by rw [cell_of_row wr w.heap.size q cs 34 (0, 0) hcs]; exact hx
      have hfz : wr.frozen? ⟨w.heap.size, q, none⟩ = false := Ty.frozen ⟨cs, hcs⟩ q
      clear hcs hcn hx
      go_wp2
      go_roundg (gk - 1)
      case measure => omega
      case rel => exact locks_step HU.out HS.out HH.out HN.out HJ.out HL.out hq hlt _ _
    · obtain rfl : q = mm + 1 := by omega
      have g5 := (HU.out.cell ib 5 hil (fun e => e)).trans w5
      have gf : ∀ o, wr.frozen? ⟨ib, o, none⟩ = false := (HU.out.ty _ _ HC.out.ti).frozen
      have gk' : wr.cell? ⟨w.heap.size, k, none⟩ = some (.pointer (some ⟨w.heap.size + 2 * k + 2, 0, none⟩)) := by rw [cell_of_row wr w.heap.size k cs 34 (0, 0) hcs]; exact HJ.out k (by omega)
      have hiw : ib < wr.heap.size := by omega
      have hne : ib ≠ w.heap.size := by omega
      clear hcs hcn
      go_upto_region 51 with fail
      go_wp2_with (refine wpList_copy_all rfl (.tmp 225) (.tmp 226) 44 44 rfl 34 Yba.underlying44 size34 wr.heap.size (mm + 1) ⟨w.heap.size, 0, none⟩ (mm + 1) rfl rfl (madeCells #[.pointer none] (mm + 1)) 34 ?qg ?qn (lockList w.heap.size mm) ?ql ?qs ?q1 ?qh)
      case qg =>
        have e : wr.heap.size = (wr.setCell ⟨ib, 5, none⟩ (.slice (some ⟨w.heap.size, 0, none⟩) (mm + 1) (mm + 1))).heap.size := by simp
        rw [e]
        exact heap_alloc_new _ _
      case qn => exact size_madeCells _ _
      case ql => simp [lockList]
      case qs =>
        intro j v hv
        have hj := (lockList_get hv).1
        rw [(lockList_get hv).2]
        refine same_new _ _ _ _ ?_
        rw [addr_add0, far _ _ hne, cell_of_row wr w.heap.size j cs 34 (0, 0) HH.out]
        exact HJ.out j (by omega)
      case q1 => intro v hv; exact lockList_one hv
      case qh =>
        intro W hW hRS
        have m1 : W.cell? ⟨wr.heap.size, mm, none⟩ = some (.pointer (some ⟨w.heap.size + 2 * mm + 2, 0, none⟩)) := by rw [cell_of_row W wr.heap.size mm _ 34 (0, 0) hW]; exact lockList_at (Nat.le_refl _)
        have m2 : W.cell? ⟨wr.heap.size, k, none⟩ = some (.pointer (some ⟨w.heap.size + 2 * k + 2, 0, none⟩)) := by rw [cell_of_row W wr.heap.size k _ 34 (0, 0) hW]; exact lockList_at hkm
        have m3 : ∀ o, W.frozen? ⟨wr.heap.size, o, none⟩ = false := Ty.frozen ⟨_, hW⟩
        have HW := show Hid _ from hW
        have HR := show Hid _ from hRS
        clear hW hRS
        go_upto_region 54 with fail
        rw [show 1 + mm - 1 = mm by omega]
        obtain ⟨r1, r2, r3, r4, r5, r6, r7, r8, r9, r10⟩ := shared_ready HC.out A hB hBs w4 HU.out HS.out HH.out HN.out HJ.out HL.out hkm hm8 _ _ HW.out HR.out w5
        exact hlast.out _ _ _ _ _ _ _ _ _ _ _ _ _ _ _ _ _ _ _ _ _ _ _ _ _ _ _ _ _ _ _ _ _ _ _ _ _ _ _ _ _ _ _ _ _ _ _ _ _ _ _ _ _ _ _ _ _ _ _ _ _ _ _ _ _ _ _ _ _ _ _ _ _ _ _ _ w.heap.size wr.heap.size (fun i => w.heap.size + 2 * i + 2) r1 r2 r3 r4 r5 r6 r7 r8 r9 r10 _ (fun _ _ h => by go_step; exact h)
end Go.Proofs.Ybulkclue.Law
