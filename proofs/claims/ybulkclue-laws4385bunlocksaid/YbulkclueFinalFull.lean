/- The last part of the law: where the item and the lock lie, by the booleans that say so. -/
import Derived.Test.YbulkclueLawBase
namespace Go.Proofs.Ybulkclue.Law
set_option linter.unusedVariables false
set_option linter.unusedSimpArgs false
set_option maxRecDepth 100000
open Go.RowKit Go.Proofs.Ybulkclue.Leaves Go.Proofs.Ybulkclue.Forget

set_option maxHeartbeats 4000000 in
theorem final_full (B : Nat) (w0 w : World) (hB : Below B w0 w) (u0 u1 u2 u3 u4 u5 u6 u7 u8 u9 u10 u11 u12 u13 u14 u15 u16 u17 u18 u21 u22 u23 u24 u25 u26 u27 u35 u37 u38 u39 u40 u41 u42 u43 u44 u46 u47 u48 u49 u50 u51 u52 u53 u54 u55 u56 u57 u58 u59 u60 u61 u62 u63 u64 u65 u66 u67 u68 u69 u70 u71 u72 u73 u74 u75 u76 u77 u78 u79 u80 u81 u82 u83 u84 u85 u86 u87 u88 u89 u90 u91 u92 u93 u94 u95 u96 u97 u98 u99 u100 u101 u102 u103 u104 u105 u106 u107 u108 u109 u110 u111 u112 u113 u114 u115 u116 u117 u118 u119 u120 u121 u122 u123 u124 u125 u126 u127 u128 u129 u130 u131 u132 u133 u134 u135 u136 u137 u138 u139 u140 u141 u142 u143 u144 u145 u146 u147 u148 u149 u150 u151 u152 u153 u154 u155 u156 u157 u158 u159 u160 u161 u162 u163 u164 u165 u166 u167 u168 u169 u170 u171 u172 u173 u174 u175 u176 u177 u178 u179 u180 u181 u182 u183 u184 u185 u186 u187 u188 u189 u190 u191 u192 u193 u194 u195 u196 u197 u198 u199 u200 u201 u202 u203 u204 u205 u206 u207 u208 u209 u210 u211 u212 u213 u214 u215 u216 u217 u218 u219 u220 u221 u222 u223 u224 u225 u226 u227 u228 u229 u230 u231 u232 u233 u234 u235 u236 u237 u238 u239 u240 u241 u242 u243 u244 u245 u246 u247 u248 u249 u250 u251 u252 u253 u254 u255 u256 u257 u258 u259 u260 u261 u262 u263 u264 u265 u266 u267 u268 u269 u270 u271 u272 u273 u274 u275 u276 u277 u278 u279 u280 u281 u282 u283 u284 u285 u286 u287 u288 u289 u290 u291 u292 u293 u294 u295 u296 u297 u298 u299 u300 u301 u302 u303 u304 u305 u306 u307 u308 u309 u310 u311 u312 u313 u314 u315 u316 u317 u318 u319 u320 u321 u322 u323 u324 u325 u326 u327 u328 u329 u330 u331 u332 u333 u334 u335 u336 u337 u338 u339 u340 u341 u342 u343 u344 u345 u346 u347 u348 u349 u350 u351 u352 u353 u354 u355 u356 u357 u358 u359 u360 u361 u362 u363 u364 u365 u366 u367 u368 u369 u370 u371 u372 u373 u374 u375 u376 u377 u378 u379 u380 u381 u382 u383 u384 u385 u386 u387 u388 u389 u390 u391 u392 u393 u394 u395 u396 u397 u398 u399 u400 u401 u402 u403 u404 u405 u406 u407 u408 u409 u410 u411 u412 u413 u414 u415 u416 u417 u418 u419 u420 u421 u422 u423 u424 u425 u426 u427 u428 u429 u430 u431 u432 u433 u434 u435 u436 u437 u438 u439 u440 u441 u442 u443 u444 u445 u446 u447 u448 u449 u450 u451 u452 u453 u454 u455 u456 u457 u458 u459 u460 u461 u462 u463 u464 u465 u466 u467 u468 u469 u470 u471 u472 u473 u474 u475 u476 u477 u478 u479 u480 u481 u482 u483 u484 u485 u486 u487 u488 u489 u490 u491 u492 u493 u494 u495 u496 u497 u498 u499 u500 u501 u502 u503 u504 u505 u506 u507 u508 u509 u510 u511 u512 u513 u514 u515 u516 u517 u518 u519 u520 u521 u522 u523 u524 u525 u526 u527 u528 u529 u530 u531 u532 u533 u534 u535 u536 : Value) (shb ib lb si0 sl0 ki0 kl0 : Nat) (sc kc : Int) (g : Bool) (hs0 : 0 ≤ sc) (hs1 : sc ≤ 1029) (hk0 : 0 ≤ kc) (hk1 : kc ≤ 69) (kb : Nat) (hk : ¬ kc < 64) (hne : kb ≠ shb)
    (k0 : w.cell? ⟨kb, 0, none⟩ = some (.pointer (some ⟨if false then ib else ki0, 0, none⟩))) (k1 : w.cell? ⟨kb, 0 + 1, none⟩ = some (.pointer (some ⟨if false then lb else kl0, 0, none⟩)))
    (k2 : w.cell? ⟨kb, 0 + 2, none⟩ = some (.int .i32 (if false then kc + 1 else kc))) (k3 : w.cell? ⟨kb, 0 + 3, none⟩ = some (.int .i32 (if false then kc + 1 else kc)))
    (c0 : w.cell? ⟨shb, 4, none⟩ = some (.pointer (some ⟨if (g && decide (sc < 1024)) then ib else si0, 0, none⟩))) (c1 : w.cell? ⟨shb, 4 + 1, none⟩ = some (.pointer (some ⟨if decide (sc < 1024) then lb else sl0, 0, none⟩)))
    (c2 : w.cell? ⟨shb, 4 + 2, none⟩ = some (.int .i32 (if (g && decide (sc < 1024)) then sc + 1 else sc))) (c3 : w.cell? ⟨shb, 4 + 3, none⟩ = some (.int .i32 (if decide (sc < 1024) then sc + 1 else sc)))
    (j0 : g = true → sc < 1024 → w.cell? ⟨ib, 0, none⟩ = some (.string ⟨#[]⟩)) (j3 : g = true → sc < 1024 → w.cell? ⟨ib, 3, none⟩ = some (.pointer (some ⟨si0, 0, none⟩)))
    (q0 : sc < 1024 → w.cell? ⟨lb, 0, none⟩ = some (.pointer none)) (q1 : sc < 1024 → w.cell? ⟨lb, 1, none⟩ = some (.pointer none)) (q2 : sc < 1024 → w.cell? ⟨lb, 2, none⟩ = some (.int .u8 0))
    (q3 : sc < 1024 → w.cell? ⟨lb, 3, none⟩ = some (.int .i64 0)) (q4 : sc < 1024 → w.cell? ⟨lb, 4, none⟩ = some (.pointer (some ⟨sl0, 0, none⟩))) :
    ∀ (K : Act → World → Prop) (hK : ∀ a w, Code.wp Yba.prog (restOf 37 (Yba.f3.body.getD .skip)) (bodyPost Yba.prog Yba.f3 (fun e w' => e = .returned (.bool true) ∧ Below B w0 w')) a w → K a w),
    Code.wp Yba.prog (headOf (restOf 36 (Yba.f3.body.getD .skip))) (Exit.then K (bodyPost Yba.prog Yba.f3 (fun e w' => e = .returned (.bool true) ∧ Below B w0 w'))) ⟨#[u0, u1, u2, u3, u4, u5, u6, u7, u8, u9, u10, u11, u12, u13, u14, u15, u16, u17, u18, .pointer (some ⟨shb, 0, none⟩), .pointer (some ⟨ib, 0, none⟩), u21, u22, u23, u24, u25, u26, u27, .int .i32 sc, .pointer (some ⟨sl0, 0, none⟩), .pointer (some ⟨si0, 0, none⟩), .int .i32 kc, .pointer (some ⟨kl0, 0, none⟩), .pointer (some ⟨ki0, 0, none⟩), .pointer (some ⟨kb, 0, none⟩), u35, .pointer (some ⟨lb, 0, none⟩), u37, u38, u39, u40, u41, u42, u43, u44, .bool g, u46, u47, u48, u49, u50, u51, u52, u53, u54, u55, u56, u57, u58, u59, u60, u61, u62, u63, u64, u65, u66, u67, u68, u69, u70, u71, u72, u73, u74, u75, u76, u77, u78, u79, u80, u81, u82, u83, u84, u85, u86, u87, u88, u89, u90, u91, u92, u93, u94, u95, u96, u97, u98, u99, u100, u101, u102, u103, u104, u105, u106, u107, u108, u109, u110, u111, u112, u113, u114, u115, u116, u117, u118, u119, u120, u121, u122, u123, u124, u125, u126, u127, u128, u129, u130, u131, u132, u133, u134, u135, u136, u137, u138, u139, u140, u141, u142, u143, u144, u145, u146, u147, u148, u149, u150, u151, u152, u153, u154, u155, u156, u157, u158, u159, u160, u161, u162, u163, u164, u165, u166, u167, u168, u169, u170, u171, u172, u173, u174, u175, u176, u177, u178, u179, u180, u181, u182, u183, u184, u185, u186, u187, u188, u189, u190, u191, u192, u193, u194, u195, u196, u197, u198, u199, u200, u201, u202, u203, u204, u205, u206, u207, u208, u209, u210, u211, u212, u213, u214, u215, u216, u217, u218, u219, u220, u221, u222, u223, u224, u225, u226, u227, u228, u229, u230, u231, u232, u233, u234, u235, u236, u237, u238, u239, u240, u241, u242, u243, u244, u245, u246, u247, u248, u249, u250, u251, u252, u253, u254, u255, u256, u257, u258, u259, u260, u261, u262, u263, u264, u265, u266, u267, u268, u269, u270, u271, u272, u273, u274, u275, u276, u277, u278, u279, u280, u281, u282, u283, u284, u285, u286, u287, u288, u289, u290, u291, u292, u293, u294, u295, u296, u297, u298, u299, u300, u301, u302, u303, u304, u305, u306, u307, u308, u309, u310, u311, u312, u313, u314, u315, u316, u317, u318, u319, u320, u321, u322, u323, u324, u325, u326, u327, u328, u329, u330, u331, u332, u333, u334, u335, u336, u337, u338, u339, u340, u341, u342, u343, u344, u345, u346, u347, u348, u349, u350, u351, u352, u353, u354, u355, u356, u357, u358, u359, u360, u361, u362, u363, u364, u365, u366, u367, u368, u369, u370, u371, u372, u373, u374, u375, u376, u377, u378, u379, u380, u381, u382, u383, u384, u385, u386, u387, u388, u389, u390, u391, u392, u393, u394, u395, u396, u397, u398, u399, u400, u401, u402, u403, u404, u405, u406, u407, u408, u409, u410, u411, u412, u413, u414, u415, u416, u417, u418, u419, u420, u421, u422, u423, u424, u425, u426, u427, u428, u429, u430, u431, u432, u433, u434, u435, u436, u437, u438, u439, u440, u441, u442, u443, u444, u445, u446, u447, u448, u449, u450, u451, u452, u453, u454, u455, u456, u457, u458, u459, u460, u461, u462, u463, u464, u465, u466, u467, u468, u469, u470, u471, u472, u473, u474, u475, u476, u477, u478, u479, u480, u481, u482, u483, u484, u485, u486, u487, u488, u489, u490, u491, u492, u493, u494, u495, u496, u497, u498, u499, u500, u501, u502, u503, u504, u505, u506, u507, u508, u509, u510, u511, u512, u513, u514, u515, u516, u517, u518, u519, u520, u521, u522, u523, u524, u525, u526, u527, u528, u529, u530, u531, u532, u533, u534, u535, u536], []⟩ w := by
  intro K hK
  conv at hK => enter [a, w, 1, 2]; whnf
  conv => arg 2; whnf
  have e1 := neq_item_same
  have e2 := neq_lock_same
  simp only [Bool.false_eq_true, if_false] at k0 k1 k2 k3
  by_cases hs : sc < 1024
  · have q0 := q0 hs
    have q1 := q1 hs
    have q2 := q2 hs
    have q3 := q3 hs
    have q4 := q4 hs
    simp only [hs, decide_true, Bool.and_true] at c0 c1 c2 c3
    cases g
    · clear j0 j3
      simp only [Bool.false_eq_true, if_true, if_false] at c0 c1 c2 c3
      go_wp2_with (first | (go_at_call_of 5 kb; refine (sp_any kb 0 ki0 kl0 ib lb kc false false _ hk0 (by omega) (by simpa using k0) (by simpa using k1) (by simpa using k2) (by simpa using k3)).mono ?_; rintro e w1 ⟨rfl, rfl⟩) | (go_at_call_of 5 shb; refine (sp_any shb 4 si0 sl0 ib lb sc false true _ hs0 (by omega) (by simpa using c0) (by simpa using c1) (by simpa using c2) (by simpa using c3)).mono ?_; rintro e w1 ⟨rfl, rfl⟩))
      go_ret
      exact ⟨rfl, hB⟩
    · have j0 := j0 rfl hs
      have j3 := j3 rfl hs
      simp only [if_true] at c0 c1 c2 c3
      go_wp2_with (first | (go_at_call_of 5 kb; refine (sp_any kb 0 ki0 kl0 ib lb kc false false _ hk0 (by omega) (by simpa using k0) (by simpa using k1) (by simpa using k2) (by simpa using k3)).mono ?_; rintro e w1 ⟨rfl, rfl⟩) | (go_at_call_of 5 shb; refine (sp_any shb 4 si0 sl0 ib lb sc true true _ hs0 (by omega) (by simpa using c0) (by simpa using c1) (by simpa using c2) (by simpa using c3)).mono ?_; rintro e w1 ⟨rfl, rfl⟩))
      go_ret
      exact ⟨rfl, hB⟩
  · clear j0 j3 q0 q1 q2 q3 q4
    simp only [hs, decide_false, Bool.and_false, Bool.false_eq_true, if_false] at c0 c1 c2 c3
    cases g
    · go_wp2_with (first | (go_at_call_of 5 kb; refine (sp_any kb 0 ki0 kl0 ib lb kc false false _ hk0 (by omega) (by simpa using k0) (by simpa using k1) (by simpa using k2) (by simpa using k3)).mono ?_; rintro e w1 ⟨rfl, rfl⟩) | (go_at_call_of 5 shb; refine (sp_any shb 4 si0 sl0 ib lb sc false false _ hs0 (by omega) (by simpa using c0) (by simpa using c1) (by simpa using c2) (by simpa using c3)).mono ?_; rintro e w1 ⟨rfl, rfl⟩))
      go_ret
      exact ⟨rfl, hB⟩
    · go_wp2_with (first | (go_at_call_of 5 kb; refine (sp_any kb 0 ki0 kl0 ib lb kc false false _ hk0 (by omega) (by simpa using k0) (by simpa using k1) (by simpa using k2) (by simpa using k3)).mono ?_; rintro e w1 ⟨rfl, rfl⟩) | (go_at_call_of 5 shb; refine (sp_any shb 4 si0 sl0 ib lb sc false false _ hs0 (by omega) (by simpa using c0) (by simpa using c1) (by simpa using c2) (by simpa using c3)).mono ?_; rintro e w1 ⟨rfl, rfl⟩))
      go_ret
      exact ⟨rfl, hB⟩

end Go.Proofs.Ybulkclue.Law
