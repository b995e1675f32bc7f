/- The law behind the readers' check: what the bucket holds, against the list that is wanted. -/
import Derived.Test.YbulkclueLawBase
import Derived.Test.YbulkclueMem
import Derived.Deep.CutBlock
namespace Go.Proofs.Ybulkclue.Law
set_option linter.unusedVariables false
set_option linter.unusedSimpArgs false
set_option maxRecDepth 100000
open Go.RowKit Go.Proofs.Ybulkclue.Leaves Go.Proofs.Ybulkclue.Forget Go.Proofs.Ybulkclue.Mem

theorem info33 : (Yba.prog.info? 33).map (fun i => (i.zero, i.size, i.bytes)) = some (some (.pointer none), 1, 8) := by kernel_rfl
theorem make_items (n : Nat) (hn : n ≤ 100) (w : World) :
    (Instr.makeSlice 25 (.int .i64 0) (.int .i64 ((n : Int) + 1))).run Yba.prog w = .ok (.slice (some ⟨w.heap.size, 0, none⟩) 0 (n + 1)) (w.alloc (.cells (madeCells #[.pointer none] (n + 1)) 33)) := by
  obtain ⟨i, hi, hz0, hz1, hz2⟩ := info_parts info33
  have hr := run_make (P := Yba.prog) w 25 33 i (.pointer none) Yba.underlying25 hi hz0 .i64 .i64 0 ((n : Int) + 1) (by omega) (by omega) (by rw [hz2]; omega) (by omega)
  rw [hr, hz1]
  have e : ((n : Int) + 1).toNat = n + 1 := by omega
  rw [e, Nat.mul_one]
  rfl

set_option maxHeartbeats 4000000 in
theorem tail_gone (B : Nat) (w0 w : World) (hB : Below B w0 w) (u0 u1 u2 u3 u4 u5 u6 u7 u8 u9 u10 u11 u12 u13 u14 u15 u16 u17 u18 u21 u22 u24 u25 u26 u28 u29 u30 u31 u32 u33 u34 u35 u36 u38 u39 u40 u41 u42 u43 u44 u45 u46 u47 u48 u49 u50 u51 u52 u53 u54 u55 u56 u57 u58 u59 u60 u61 u62 u63 u64 u65 u66 u67 u68 u69 u70 u71 u72 u73 u74 u75 u76 u77 u78 u79 u80 u81 u82 u83 u84 u85 u86 u87 u88 u89 u90 u91 u92 u93 u94 u95 u96 u97 u98 u99 u100 u101 u102 u103 u104 u105 u106 u107 u108 u109 u110 u111 u112 u113 u114 u115 u116 u117 u118 u119 u120 u121 u122 u123 u124 u125 u126 u127 u128 u129 u130 u131 u132 u133 u134 u135 u136 u137 u138 u139 u140 u141 u142 u143 u144 u145 u146 u147 u148 u149 u150 u151 u152 u153 u154 u155 u156 u157 u158 u159 u160 u161 u162 u163 u164 u165 u166 u167 u168 u169 u170 u171 u172 u173 u174 u175 u176 u177 u178 u179 u180 u181 u182 u183 u184 u185 u186 u187 u188 u189 u190 u191 u192 u193 u194 u195 u196 u197 u198 u199 u200 u201 u202 u203 u204 u205 u206 u207 u208 u209 u210 u211 u212 u213 u214 u215 u216 u217 u218 u219 u220 u221 u222 u223 u224 u225 u226 u227 u228 u229 u230 u231 u232 u233 u234 u235 u236 u237 u238 u239 u240 u241 u242 u243 u244 u245 u246 u247 u248 u249 u250 u251 u252 u253 u254 u255 u256 u257 u258 u259 u260 u261 u262 u263 u264 u265 u266 u267 u268 u269 u270 u271 u272 u273 u274 u275 u276 u277 u278 u279 u280 u281 u282 u283 u284 u285 u286 u287 u288 u289 u290 u291 u292 u293 u294 u295 u296 u297 u298 u299 u300 u301 u302 u303 u304 u305 u306 u307 u308 u309 u310 u311 u312 u313 u314 u315 u316 u317 u318 u319 u320 u321 u322 u323 u324 u325 u326 u327 u328 u329 u330 u331 u332 u333 u334 u335 u336 u337 u338 u339 u340 u341 u342 u343 u344 u345 u346 u347 u348 u349 u350 u351 u352 u353 u354 u355 u356 u357 u358 u359 u360 u361 u362 u363 u364 u365 u366 u367 u368 u369 u370 u371 u372 u373 u374 u375 u376 u377 u378 u379 u380 u381 u382 u383 u384 u385 u386 u387 u388 u389 u390 u391 u392 u393 u394 u395 u396 u397 u398 u399 u400 u401 u402 u403 u404 u405 u406 u407 u408 u409 u410 u411 u412 u413 u414 u415 u416 u417 u418 u419 u420 u421 u422 u423 u424 u425 u426 u427 u428 u429 u430 u431 u432 u433 u434 u435 u436 u437 u438 u439 u440 u441 u442 u443 u444 u445 u446 u447 u448 u449 u450 u451 u452 u453 u454 u455 u456 u457 u458 u459 u460 u461 u462 u463 u464 u465 u466 u467 u468 u469 u470 u471 u472 u473 u474 u475 u476 u477 u478 u479 u480 u481 u482 u483 u484 u485 u486 u487 u488 u489 u490 u491 u492 u493 u494 u495 u496 u497 u498 u499 u500 u501 u502 u503 u504 u505 u506 u507 u508 u509 u510 u511 u512 u513 u514 u515 u516 u517 u518 u519 u520 u521 u522 u523 u524 u525 u526 u527 u528 u529 u530 u531 u532 u533 u534 u535 u536 : Value) (shb ib bb chb no p s cm : Nat) (md : Option Addr) (m : Nat) (c d : Nat → Nat) (nx : Nat → Option Addr) (n' : Nat)
    (hBw : B ≤ w.heap.size) (hno : no ≤ 3) (hp : p ≤ no) (hs : s < 8) (hn' : n' ≤ 4)
    (tch : Ty w chb 33) (hch : Hid (∀ i, i ≤ no → w.cell? ⟨chb, i, none⟩ = some (.pointer (some ⟨c i, 0, none⟩)))) (hrow : Hid (∀ i, i ≤ no → IsRow w (c i))) (hcp : Hid (c p = ib)) (hinj : Hid (∀ i, i ≤ no → i ≠ p → c i ≠ ib))
    (s2 : w.cell? ⟨shb, 2, none⟩ = some (.slice (some ⟨bb, 0, none⟩) 8 8)) (s3 : w.cell? ⟨shb, 3, none⟩ = some (.int .i64 n'))
    (hb : w.cell? ⟨bb, s, none⟩ = some (.pointer (nx 0))) (hlinks : Hid (∀ i, i < n' → w.cell? ⟨d i, 3, none⟩ = some (.pointer (nx (i + 1))))) (hz : Hid (∀ j, j < 8 → j ≠ s → w.cell? ⟨bb, j, none⟩ = some (.pointer none)))
    (hnx : Hid (∀ i, i < n' → nx i = some ⟨d i, 0, none⟩)) (hnx0 : Hid (nx n' = none))
    (hg : n' = no) (hm : m = 0) (hd : Hid (∀ i, d i = if i < p then c i else c (i + 1)))
    (hfin : Hid (∀ (w' : World) (x18 x46 x47 x48 x49 x50 x290 x291 x292 x293 x294 x295 x296 x297 x298 x299 x300 x301 x302 x303 x304 x305 x306 x307 x308 x309 x310 x311 x312 x313 x314 x315 x316 x317 x318 x319 x320 x321 x322 x323 x324 x325 x326 x327 x328 x329 x330 x331 x332 x333 x334 x335 x336 x337 x338 x339 x340 x341 x342 x343 x344 x345 x346 x347 x348 x349 x350 x351 x352 x353 x354 x355 x356 x357 x358 x359 x360 x361 x362 x363 x364 x365 x366 x367 x368 x369 x370 x371 x372 x373 x374 : Value), Below w.heap.size w w' → ∀ (K : Act → World → Prop) (hK : ∀ a w, Code.wp Yba.prog (restOf 37 (Yba.f3.body.getD .skip)) (bodyPost Yba.prog Yba.f3 (fun e w' => e = .returned (.bool true) ∧ Below B w0 w')) a w → K a w), Code.wp Yba.prog (headOf (restOf 36 (Yba.f3.body.getD .skip))) (Exit.then K (bodyPost Yba.prog Yba.f3 (fun e w' => e = .returned (.bool true) ∧ Below B w0 w'))) ⟨#[u0, u1, u2, u3, u4, u5, u6, u7, u8, u9, u10, u11, u12, u13, u14, u15, u16, u17, x18, .pointer (some ⟨shb, 0, none⟩), .pointer (some ⟨ib, 0, none⟩), u21, u22, .slice (some ⟨chb, 0, none⟩) (no + 1) (no + 1), u24, u25, u26, .int .u64 s, u28, u29, u30, u31, u32, u33, u34, u35, u36, .slice md m cm, u38, u39, u40, u41, u42, u43, u44, .bool true, x46, x47, x48, x49, x50, u51, u52, u53, u54, u55, u56, u57, u58, u59, u60, u61, u62, u63, u64, u65, u66, u67, u68, u69, u70, u71, u72, u73, u74, u75, u76, u77, u78, u79, u80, u81, u82, u83, u84, u85, u86, u87, u88, u89, u90, u91, u92, u93, u94, u95, u96, u97, u98, u99, u100, u101, u102, u103, u104, u105, u106, u107, u108, u109, u110, u111, u112, u113, u114, u115, u116, u117, u118, u119, u120, u121, u122, u123, u124, u125, u126, u127, u128, u129, u130, u131, u132, u133, u134, u135, u136, u137, u138, u139, u140, u141, u142, u143, u144, u145, u146, u147, u148, u149, u150, u151, u152, u153, u154, u155, u156, u157, u158, u159, u160, u161, u162, u163, u164, u165, u166, u167, u168, u169, u170, u171, u172, u173, u174, u175, u176, u177, u178, u179, u180, u181, u182, u183, u184, u185, u186, u187, u188, u189, u190, u191, u192, u193, u194, u195, u196, u197, u198, u199, u200, u201, u202, u203, u204, u205, u206, u207, u208, u209, u210, u211, u212, u213, u214, u215, u216, u217, u218, u219, u220, u221, u222, u223, u224, u225, u226, u227, u228, u229, u230, u231, u232, u233, u234, u235, u236, u237, u238, u239, u240, u241, u242, u243, u244, u245, u246, u247, u248, u249, u250, u251, u252, u253, u254, u255, u256, u257, u258, u259, u260, u261, u262, u263, u264, u265, u266, u267, u268, u269, u270, u271, u272, u273, u274, u275, u276, u277, u278, u279, u280, u281, u282, u283, u284, u285, u286, u287, u288, u289, x290, x291, x292, x293, x294, x295, x296, x297, x298, x299, x300, x301, x302, x303, x304, x305, x306, x307, x308, x309, x310, x311, x312, x313, x314, x315, x316, x317, x318, x319, x320, x321, x322, x323, x324, x325, x326, x327, x328, x329, x330, x331, x332, x333, x334, x335, x336, x337, x338, x339, x340, x341, x342, x343, x344, x345, x346, x347, x348, x349, x350, x351, x352, x353, x354, x355, x356, x357, x358, x359, x360, x361, x362, x363, x364, x365, x366, x367, x368, x369, x370, x371, x372, x373, x374, u375, u376, u377, u378, u379, u380, u381, u382, u383, u384, u385, u386, u387, u388, u389, u390, u391, u392, u393, u394, u395, u396, u397, u398, u399, u400, u401, u402, u403, u404, u405, u406, u407, u408, u409, u410, u411, u412, u413, u414, u415, u416, u417, u418, u419, u420, u421, u422, u423, u424, u425, u426, u427, u428, u429, u430, u431, u432, u433, u434, u435, u436, u437, u438, u439, u440, u441, u442, u443, u444, u445, u446, u447, u448, u449, u450, u451, u452, u453, u454, u455, u456, u457, u458, u459, u460, u461, u462, u463, u464, u465, u466, u467, u468, u469, u470, u471, u472, u473, u474, u475, u476, u477, u478, u479, u480, u481, u482, u483, u484, u485, u486, u487, u488, u489, u490, u491, u492, u493, u494, u495, u496, u497, u498, u499, u500, u501, u502, u503, u504, u505, u506, u507, u508, u509, u510, u511, u512, u513, u514, u515, u516, u517, u518, u519, u520, u521, u522, u523, u524, u525, u526, u527, u528, u529, u530, u531, u532, u533, u534, u535, u536], []⟩ w')) :
    ∀ (K : Act → World → Prop) (hK : ∀ a w, Code.wp Yba.prog (restOf 30 (Yba.f3.body.getD .skip)) (bodyPost Yba.prog Yba.f3 (fun e w' => e = .returned (.bool true) ∧ Below B w0 w')) a w → K a w), Code.wp Yba.prog (headOf (restOf 29 (Yba.f3.body.getD .skip))) (Exit.then K (bodyPost Yba.prog Yba.f3 (fun e w' => e = .returned (.bool true) ∧ Below B w0 w'))) ⟨#[u0, u1, u2, u3, u4, u5, u6, u7, u8, u9, u10, u11, u12, u13, u14, u15, u16, u17, u18, .pointer (some ⟨shb, 0, none⟩), .pointer (some ⟨ib, 0, none⟩), u21, u22, .slice (some ⟨chb, 0, none⟩) (no + 1) (no + 1), u24, u25, u26, .int .u64 s, u28, u29, u30, u31, u32, u33, u34, u35, u36, .slice md m cm, u38, u39, u40, u41, u42, u43, u44, u45, u46, u47, u48, u49, u50, u51, u52, u53, u54, u55, u56, u57, u58, u59, u60, u61, u62, u63, u64, u65, u66, u67, u68, u69, u70, u71, u72, u73, u74, u75, u76, u77, u78, u79, u80, u81, u82, u83, u84, u85, u86, u87, u88, u89, u90, u91, u92, u93, u94, u95, u96, u97, u98, u99, u100, u101, u102, u103, u104, u105, u106, u107, u108, u109, u110, u111, u112, u113, u114, u115, u116, u117, u118, u119, u120, u121, u122, u123, u124, u125, u126, u127, u128, u129, u130, u131, u132, u133, u134, u135, u136, u137, u138, u139, u140, u141, u142, u143, u144, u145, u146, u147, u148, u149, u150, u151, u152, u153, u154, u155, u156, u157, u158, u159, u160, u161, u162, u163, u164, u165, u166, u167, u168, u169, u170, u171, u172, u173, u174, u175, u176, u177, u178, u179, u180, u181, u182, u183, u184, u185, u186, u187, u188, u189, u190, u191, u192, u193, u194, u195, u196, u197, u198, u199, u200, u201, u202, u203, u204, u205, u206, u207, u208, u209, u210, u211, u212, u213, u214, u215, u216, u217, u218, u219, u220, u221, u222, u223, u224, u225, u226, u227, u228, u229, u230, u231, u232, u233, u234, u235, u236, u237, u238, u239, u240, u241, u242, u243, u244, u245, u246, u247, u248, u249, u250, u251, u252, u253, u254, u255, u256, u257, u258, u259, u260, u261, u262, u263, u264, u265, u266, u267, u268, u269, u270, u271, u272, u273, u274, u275, u276, u277, u278, u279, u280, u281, u282, u283, u284, u285, u286, u287, u288, u289, u290, u291, u292, u293, u294, u295, u296, u297, u298, u299, u300, u301, u302, u303, u304, u305, u306, u307, u308, u309, u310, u311, u312, u313, u314, u315, u316, u317, u318, u319, u320, u321, u322, u323, u324, u325, u326, u327, u328, u329, u330, u331, u332, u333, u334, u335, u336, u337, u338, u339, u340, u341, u342, u343, u344, u345, u346, u347, u348, u349, u350, u351, u352, u353, u354, u355, u356, u357, u358, u359, u360, u361, u362, u363, u364, u365, u366, u367, u368, u369, u370, u371, u372, u373, u374, u375, u376, u377, u378, u379, u380, u381, u382, u383, u384, u385, u386, u387, u388, u389, u390, u391, u392, u393, u394, u395, u396, u397, u398, u399, u400, u401, u402, u403, u404, u405, u406, u407, u408, u409, u410, u411, u412, u413, u414, u415, u416, u417, u418, u419, u420, u421, u422, u423, u424, u425, u426, u427, u428, u429, u430, u431, u432, u433, u434, u435, u436, u437, u438, u439, u440, u441, u442, u443, u444, u445, u446, u447, u448, u449, u450, u451, u452, u453, u454, u455, u456, u457, u458, u459, u460, u461, u462, u463, u464, u465, u466, u467, u468, u469, u470, u471, u472, u473, u474, u475, u476, u477, u478, u479, u480, u481, u482, u483, u484, u485, u486, u487, u488, u489, u490, u491, u492, u493, u494, u495, u496, u497, u498, u499, u500, u501, u502, u503, u504, u505, u506, u507, u508, u509, u510, u511, u512, u513, u514, u515, u516, u517, u518, u519, u520, u521, u522, u523, u524, u525, u526, u527, u528, u529, u530, u531, u532, u533, u534, u535, u536], []⟩ w := by
  intro K hK
  conv at hK => enter [a, w, 1, 2]; whnf
  conv => arg 2; whnf
  subst hg hm
  have hmk := make_items n' (by omega)
  obtain ⟨i33, hi33, hz0, hz1, hz2⟩ := info_parts info33
  have hsame := neq_item_same
  have hsame2 := same_item
  go_upto_block 8 with fail
  go_wp2_with fail
  go_loopg [46, 47] (n' + 1) (fun gk want i wr => ∃ k : Nat, k + gk = n' + 1 ∧ i = .int .i64 k ∧ want = .slice (some ⟨w.heap.size, 0, none⟩) (if k ≤ p then k else k - 1) (n' + 1) ∧
    (∃ cs, wr.heap[w.heap.size]? = some (.cells cs 33 (0, 0)) ∧ cs.size = n' + 1 ∧ ∀ j, j < (if k ≤ p then k else k - 1) → cs[j]? = some (.pointer (some ⟨d j, 0, none⟩))) ∧ Below w.heap.size w wr ∧ w.heap.size < wr.heap.size)
  case atStart =>
    refine ⟨0, by omega, rfl, by simp, ⟨_, heap_alloc_new w _, size_madeCells _ _, ?_⟩, (Below.refl _ _).alloc (Nat.le_refl _) _, by simp⟩
    intro j hj
    simp at hj
  case round =>
    obtain ⟨k, hk, rfl, rfl, ⟨cs, hcs, hsz, hcj⟩, hbel, hWs⟩ := hrel
    by_cases hlt : k < n' + 1
    · have hcx : wr.cell? ⟨chb, k, none⟩ = some (.pointer (some ⟨c k, 0, none⟩)) := (hbel.cell tch.lt).trans (hch.out k (by omega))
      by_cases hkp : k = p
      · subst hkp
        rw [hcp.out] at hcx
        go_wp2
        go_roundg (gk - 1)
        case measure => omega
        case rel =>
          refine ⟨k + 1, by omega, by go_num, ?_, ⟨cs, hcs, hsz, ?_⟩, hbel, hWs⟩
          · rw [if_neg (by omega), Nat.add_sub_cancel]
          · intro j hj
            exact hcj j (by rw [if_pos (by omega)]; rw [if_neg (by omega)] at hj; omega)
      · have hne := (item_other (w := wr) (hinj.out k (by omega) hkp) (by
            obtain ⟨x, t, hx⟩ := hrow.out k (by omega)
            exact ⟨x, t, by rw [hbel.block _ (Array.getElem?_eq_some_iff.1 hx).1]; exact hx⟩) (by
            obtain ⟨x, t, hx⟩ := hrow.out p (by omega)
            rw [hcp.out] at hx
            exact ⟨x, t, by rw [hbel.block _ (Array.getElem?_eq_some_iff.1 hx).1]; exact hx⟩)).2
        have hcn : (if k ≤ p then k else k - 1) < n' + 1 := by split <;> omega
        have hdk : d (if k ≤ p then k else k - 1) = c k := by
          rw [hd.out]
          by_cases h1 : k < p
          · rw [if_pos (show k ≤ p by omega), if_pos h1]
          · rw [if_neg (show ¬ k ≤ p by omega), if_neg (by omega)]
            congr 1
            omega
        have hcnt : (if k + 1 ≤ p then k + 1 else k + 1 - 1) = (if k ≤ p then k else k - 1) + 1 := by split <;> split <;> omega
        have HD : Hid (d (if k ≤ p then k else k - 1) = c k) := hdk
        have HC : Hid ((if k + 1 ≤ p then k + 1 else k + 1 - 1) = (if k ≤ p then k else k - 1) + 1) := hcnt
        clear hdk hcnt
        generalize (if k ≤ p then k else k - 1) = cn at *
        go_wp2_with (at_builtin; refine wpList_append_one _ rfl _ _ 25 rfl 33 i33 Yba.underlying25 hi33 hz1 w.heap.size _ _ cs rfl ⟨wr.heap.size, 0, none⟩ 1 rfl ?qa hsz ?qb (.pointer (some ⟨c k, 0, none⟩)) ?qc rfl ?qd)
        case qa => rw [Below.heap_alloc _ _ _ hWs]; exact hcs
        case qb => exact hcn
        case qc => simp
        go_wp2
        go_roundg (gk - 1)
        case measure => omega
        case rel =>
          refine ⟨k + 1, by omega, by go_num, by rw [HC.out], ⟨_, row_stored hWs hcs, by simp [hsz], ?_⟩, ?_, ?_⟩
          · intro j hj
            rw [Array.getElem?_setIfInBounds]
            rw [HC.out] at hj
            by_cases e : cn = j
            · subst e
              simp [hsz, hcn, HD.out]
            · rw [if_neg e]
              exact hcj j (by omega)
          · exact (hbel.setCell (Nat.le_refl _) _).alloc (by simp; omega) _
          · simp; omega
    · obtain rfl : k = n' + 1 := by omega
      have hcnt : (if n' + 1 ≤ p then n' + 1 else n' + 1 - 1) = n' := by rw [if_neg (by omega)]; rfl
      rw [hcnt] at hcj ⊢
      clear hcnt
      have hwant : Hid (∀ j, j < n' → wr.cell? ⟨w.heap.size, j, none⟩ = some (.pointer (some ⟨d j, 0, none⟩))) := fun j hj => by
        rw [cell_of_row wr w.heap.size j cs 33 (0, 0) hcs]
        exact hcj j hj
      have s2' := (hbel.cell (World.block_lt_of_cell? _ _ s2)).trans s2
      have s3' := (hbel.cell (World.block_lt_of_cell? _ _ s3)).trans s3
      have hb' := (hbel.cell (World.block_lt_of_cell? _ _ hb)).trans hb
      clear hcj hcs hsz
      go_upto_block 10 with fail
      go_wp2_with fail
      go_loop [48, 49] (fun q i => ∃ k : Nat, k ≤ n' ∧ i = .int .i64 k ∧ q = .pointer (nx k)) (fun _ i => n' - (intOf i).toNat)
      case atStart => exact ⟨0, by omega, rfl, rfl⟩
      case round =>
        obtain ⟨k, hk2, rfl, rfl⟩ := hrel
        by_cases hlt2 : k < n'
        · have hw := hwant.out k hlt2
          have hl := (hbel.cell (World.block_lt_of_cell? _ _ (hlinks.out k hlt2))).trans (hlinks.out k hlt2)
          rw [hnx.out k hlt2]
          go_wp2
          go_round
          case rel => exact ⟨k + 1, by omega, by go_num, rfl⟩
          case measure => simp [intOf]; omega
        · obtain rfl : k = n' := by omega
          rw [hnx0.out]
          go_upto_block 12 with fail
          go_wp2_with fail
          go_loop [50] (fun i => ∃ k : Nat, k ≤ 8 ∧ i = .int .i64 k) (fun i => 8 - (intOf i).toNat)
          case atStart => exact ⟨0, by omega, rfl⟩
          case round =>
            obtain ⟨k, hk3, rfl⟩ := hrel
            by_cases hlt3 : k < 8
            · by_cases hks : k = s
              · subst hks
                go_wp2
                go_round
                case rel => exact ⟨k + 1, by omega, by go_num⟩
                case measure => simp [intOf]; omega
              · have hzk := (hbel.cell (World.block_lt_of_cell? _ _ (hz.out k hlt3 hks))).trans (hz.out k hlt3 hks)
                have hne : ((k : Int) != (s : Int)) = true := by rw [bne_iff_ne]; omega
                go_wp2
                go_round
                case rel => exact ⟨k + 1, by omega, by go_num⟩
                case measure => simp [intOf]; omega
            · go_upto_region 84 with fail
              exact hfin.out wr _ _ _ _ _ _ _ _ _ _ _ _ _ _ _ _ _ _ _ _ _ _ _ _ _ _ _ _ _ _ _ _ _ _ _ _ _ _ _ _ _ _ _ _ _ _ _ _ _ _ _ _ _ _ _ _ _ _ _ _ _ _ _ _ _ _ _ _ _ _ _ _ _ _ _ _ _ _ _ _ _ _ _ _ _ _ _ _ _ _ _ hbel _ (fun _ _ h => by go_step; exact h)
end Go.Proofs.Ybulkclue.Law
