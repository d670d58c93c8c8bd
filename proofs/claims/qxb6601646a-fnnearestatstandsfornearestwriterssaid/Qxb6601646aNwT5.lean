import Derived.Test.Qxb6601646aNwZat2
import Derived.Deep.CutRange
import Derived.Test.Qxb6601646aNwT9
namespace Go.Proofs.Qxb6601646a.Nw
set_option linter.unusedVariables false
open Go.RowKit Go.Proofs.Qxb6601646a.Tw Go.Proofs.Qxb6601646a.Np

set_option maxHeartbeats 8000000 in
set_option maxRecDepth 1000000 in
theorem t5 (u9 u10 u11 u12 u13 u14 u15 u16 u17 u18 u19 u20 u21 u22 u23 u24 u25 u26 u27 u28 u29 u30 u31 u32 u33 u34 u35 u36 u37 u38 u39 u40 u41 u42 u43 u44 u45 u46 u47 u48 u49 u50 u51 u52 u53 u54 u55 u56 u57 u58 u59 u60 u61 u62 u63 u64 u65 u66 u67 u68 u69 u70 u71 u72 u73 u74 u75 u76 u77 u78 u79 u80 u81 u82 u83 u84 u85 u86 u87 u88 u89 u90 u91 u92 u93 u94 u95 u96 u97 u98 u99 u100 u101 u102 u103 u104 u105 u106 u107 u108 u109 u110 u111 u112 u113 u114 u115 u116 u117 u118 u119 u120 u121 u122 u123 u124 u125 u126 u127 u128 u129 u130 u131 u132 u133 u134 u135 u136 u137 u138 u139 u140 u141 u142 u143 u144 u145 u146 u147 u148 u149 u150 u151 u152 u153 u154 u155 u156 u157 u158 u159 u160 u161 u162 u163 u164 u165 u166 u167 u168 u169 u170 u171 u172 u173 u174 u175 u176 u177 u178 u179 u180 u181 u182 u183 u184 u185 u186 u187 u188 u189 u190 u191 u192 u193 u194 u195 u196 u197 u198 u199 u200 u201 u202 u203 u204 u205 u206 u207 u208 u209 u210 u211 u212 u213 u214 u215 u216 u217 u218 u219 u220 u221 u222 u223 u224 u225 u226 u227 u228 u229 u230 u231 u232 u233 u234 u235 u236 u237 u238 u239 u240 u241 u242 u243 u244 u245 u246 u247 u248 u249 u250 u251 u252 u253 u254 u255 u256 u257 u258 u259 u260 u261 u262 u263 u264 u265 u266 u267 u268 u269 u270 u271 u272 u273 u274 u275 u276 u277 u278 u279 u280 u281 u282 u283 u284 u285 u286 u287 u288 u289 u290 u291 u292 u293 u294 u295 u296 u297 u298 u299 u300 u301 u302 u303 u304 u305 u306 u307 u308 u309 u310 u311 u312 u313 u314 u315 u316 u317 u318 u319 u320 u321 u322 u323 u324 u325 u326 u327 u328 u329 u330 u331 u332 u333 u334 u335 u336 u337 u338 u339 u340 u341 u342 u343 u344 u345 u346 u347 u348 u349 u350 u351 u352 u353 u354 u355 u356 u357 u358 u359 u360 u361 u362 u363 u364 u365 u366 u367 u368 u369 u370 u371 u372 u373 u374 u375 u376 u377 u378 u379 u380 u381 u382 u383 u384 u385 u386 u387 u388 u389 u390 u391 u392 u393 u394 u395 u396 u397 u398 u399 u400 u401 u402 u403 u404 u405 u406 u407 u408 u409 u410 u411 u412 u413 u414 u415 u416 u417 u418 u419 u420 u421 u422 u423 u424 u425 u426 u427 u428 u429 u430 u431 u432 u433 u434 u435 u436 u437 u438 u439 u440 u441 u442 u443 u444 u445 u446 u447 u448 u449 u450 u451 u452 u453 u454 u455 u456 u457 u458 u459 u460 u461 u462 u463 u464 u465 u466 u467 u468 u469 u470 u471 u472 u473 u474 u475 u476 u477 u478 u479 u480 u481 u482 u483 u484 u485 u486 u487 u488 u489 u490 u491 u492 u493 u494 u495 u496 u497 u498 u499 u500 u501 u502 u503 u504 u505 u506 u507 u508 u509 u510 u511 u512 u513 u514 u515 u516 u517 u518 u519 u520 u521 u522 u523 u524 u525 u526 u527 u528 u529 u530 u531 u532 u533 u534 u535 u536 u537 u538 u539 u540 u541 u542 u543 u544 u545 u546 u547 u548 u549 u550 u551 u552 u553 u554 u555 u556 u557 u558 u559 u560 u561 u562 u563 u564 u565 u566 u567 u568 u569 u570 u571 u572 u573 u574 u575 u576 u577 u578 u579 u580 u581 u582 u583 u584 u585 u586 u587 u588 u589 u590 u591 u592 u593 u594 u595 u596 u597 u598 u599 u600 u601 u602 u603 u604 u605 u606 u607 u608 u609 u610 u611 u612 u613 u614 u615 : Value)
    (w0 w : World) (a ga wa na oa : Option Addr) (n0 c gn gc wn wc nn nc on oc : Nat) (z sz pz : Int) (fw : Bool) (W nd0 : List Int) (S0 Ro : List (List Int)) (HM : Hid (Mat w a n0 S0)) (HMo : Hid (Mat w oa on Ro)) (HRn : Hid (Row w na nn nd0)) (HRw : Hid (Row w wa wn W)) (HB : Hid (Below w0.heap.size w0 w)) (hb0 : n0 ≤ 65536) (hbg : gn ≤ 65536) (hbw : wn ≤ 65536) (hb2 : nn ≤ 131072) (hbo : on ≤ 65536) (hpz : pz ≤ 9223372036854775807) (HSm : Hid (Small S0 n0 ∧ Small Ro on)) :
    Code.wp Try.prog (sndN 5 (Try.f3.body.getD .skip)) (bodyPost Try.prog Try.f3 fun e w' => e = .returned (.bool true) ∧ Below w0.heap.size w0 w') ⟨#[(.slice a n0 c), (.slice ga gn gc), (.int .i64 z), (.bool fw), (.int .i64 sz), (.slice wa wn wc), (.slice na nn nc), (.slice oa on oc), (.int .i64 pz), u9, u10, u11, u12, u13, u14, u15, u16, u17, u18, u19, u20, u21, u22, u23, u24, u25, u26, u27, u28, u29, u30, u31, u32, u33, u34, u35, u36, u37, u38, u39, u40, u41, u42, u43, u44, u45, u46, u47, u48, u49, u50, u51, u52, u53, u54, u55, u56, u57, u58, u59, u60, u61, u62, u63, u64, u65, u66, u67, u68, u69, u70, u71, u72, u73, u74, u75, u76, u77, u78, u79, u80, u81, u82, u83, u84, u85, u86, u87, u88, u89, u90, u91, u92, u93, u94, u95, u96, u97, u98, u99, u100, u101, u102, u103, u104, u105, u106, u107, u108, u109, u110, u111, u112, u113, u114, u115, u116, u117, u118, u119, u120, u121, u122, u123, u124, u125, u126, u127, u128, u129, u130, u131, u132, u133, u134, u135, u136, u137, u138, u139, u140, u141, u142, u143, u144, u145, u146, u147, u148, u149, u150, u151, u152, u153, u154, u155, u156, u157, u158, u159, u160, u161, u162, u163, u164, u165, u166, u167, u168, u169, u170, u171, u172, u173, u174, u175, u176, u177, u178, u179, u180, u181, u182, u183, u184, u185, u186, u187, u188, u189, u190, u191, u192, u193, u194, u195, u196, u197, u198, u199, u200, u201, u202, u203, u204, u205, u206, u207, u208, u209, u210, u211, u212, u213, u214, u215, u216, u217, u218, u219, u220, u221, u222, u223, u224, u225, u226, u227, u228, u229, u230, u231, u232, u233, u234, u235, u236, u237, u238, u239, u240, u241, u242, u243, u244, u245, u246, u247, u248, u249, u250, u251, u252, u253, u254, u255, u256, u257, u258, u259, u260, u261, u262, u263, u264, u265, u266, u267, u268, u269, u270, u271, u272, u273, u274, u275, u276, u277, u278, u279, u280, u281, u282, u283, u284, u285, u286, u287, u288, u289, u290, u291, u292, u293, u294, u295, u296, u297, u298, u299, u300, u301, u302, u303, u304, u305, u306, u307, u308, u309, u310, u311, u312, u313, u314, u315, u316, u317, u318, u319, u320, u321, u322, u323, u324, u325, u326, u327, u328, u329, u330, u331, u332, u333, u334, u335, u336, u337, u338, u339, u340, u341, u342, u343, u344, u345, u346, u347, u348, u349, u350, u351, u352, u353, u354, u355, u356, u357, u358, u359, u360, u361, u362, u363, u364, u365, u366, u367, u368, u369, u370, u371, u372, u373, u374, u375, u376, u377, u378, u379, u380, u381, u382, u383, u384, u385, u386, u387, u388, u389, u390, u391, u392, u393, u394, u395, u396, u397, u398, u399, u400, u401, u402, u403, u404, u405, u406, u407, u408, u409, u410, u411, u412, u413, u414, u415, u416, u417, u418, u419, u420, u421, u422, u423, u424, u425, u426, u427, u428, u429, u430, u431, u432, u433, u434, u435, u436, u437, u438, u439, u440, u441, u442, u443, u444, u445, u446, u447, u448, u449, u450, u451, u452, u453, u454, u455, u456, u457, u458, u459, u460, u461, u462, u463, u464, u465, u466, u467, u468, u469, u470, u471, u472, u473, u474, u475, u476, u477, u478, u479, u480, u481, u482, u483, u484, u485, u486, u487, u488, u489, u490, u491, u492, u493, u494, u495, u496, u497, u498, u499, u500, u501, u502, u503, u504, u505, u506, u507, u508, u509, u510, u511, u512, u513, u514, u515, u516, u517, u518, u519, u520, u521, u522, u523, u524, u525, u526, u527, u528, u529, u530, u531, u532, u533, u534, u535, u536, u537, u538, u539, u540, u541, u542, u543, u544, u545, u546, u547, u548, u549, u550, u551, u552, u553, u554, u555, u556, u557, u558, u559, u560, u561, u562, u563, u564, u565, u566, u567, u568, u569, u570, u571, u572, u573, u574, u575, u576, u577, u578, u579, u580, u581, u582, u583, u584, u585, u586, u587, u588, u589, u590, u591, u592, u593, u594, u595, u596, u597, u598, u599, u600, u601, u602, u603, u604, u605, u606, u607, u608, u609, u610, u611, u612, u613, u614, u615], []⟩ w := by
  conv => arg 2; whnf
  refine wp_seq_k fun K5 hK5 => ?_
  have HK5 := hide hK5
  clear hK5
  go_wp2_with fail
  refine HK5.out _ _ ?_
  clear HK5
  refine wp_seq_k fun K6 hK6 => ?_
  have HK6 := hide hK6
  clear hK6
  by_cases h3 : (1048576 : Int) < 24 * (n0 : Int) + 8 * (gn : Int) + 8 * (wn : Int) + 8 * (nn : Int) + 24 * (on : Int)
  · go_wp2_with fail
    go_ret
    exact ⟨ret_bool rfl, HB.out⟩
  go_wp2_with fail
  refine HK6.out _ _ ?_
  clear HK6
  refine wp_seq_k fun K7 hK7 => ?_
  have HK7 := hide hK7
  clear hK7
  go_wp2_with fail
  go_loop [21, 22] (fun t i => ∃ (k : Nat) (y : Int), k ≤ n0 ∧ 0 ≤ y ∧ y ≤ 1048576 ∧ i = .int .i64 (k : Int) ∧ t = .int .i64 y ∧ Hid (∀ j, j < k → (S0.getD j []).length ≤ 131072)) (fun _ i => n0 - (intOf i).toNat)
  case atStart => exact ⟨0, 24 * (n0 : Int) + 8 * (gn : Int) + 8 * (wn : Int) + 8 * (nn : Int) + 24 * (on : Int), Nat.zero_le _, by omega, by omega, rfl, rfl, fun j hj => by omega⟩
  case round =>
    obtain ⟨k, y, hk, hy0, hy1, rfl, rfl, HL⟩ := hrel
    by_cases hlt : k < n0
    · obtain ⟨b1, off, rfl, hb, a', l', c', hcell, _, hrow⟩ := HM.out.at k hlt
      have hlt' : (k : Int) < (n0 : Int) := by omega
      have HE : Hid ((S0.getD k []).length = l') := hrow.1
      have hl1 : l' ≤ 1048576 := by rw [← hrow.1]; exact HSm.out.1 k hlt
      clear hrow
      by_cases h4 : (1048576 : Int) < y + 8 * (l' : Int)
      · go_wp2_with fail
        go_ret
        exact ⟨ret_bool rfl, HB.out⟩
      · go_wp2_with fail
        go_round
        case rel => exact ⟨k + 1, y + 8 * (l' : Int), by omega, by omega, by omega, by go_num, rfl, fun j hj => by by_cases e : j = k; · { rw [e, HE.out]; omega }; · { exact HL.out j (by omega) }⟩
        case measure => simp [intOf]; omega
    · have hlt' : ¬ (k : Int) < (n0 : Int) := by omega
      have HBr : Hid (∀ i, (S0.getD i []).length ≤ 131072) := fun i => by
        by_cases hi : i < n0
        · exact HL.out i (by omega)
        · rw [List.getD_eq_getElem?_getD, List.getElem?_eq_none (by rw [HM.out.1]; omega)]; simp
      clear HL hlt hk
      go_wp2_with fail
      refine HK7.out _ _ ?_
      clear HK7
      refine wp_seq_k fun K8 hK8 => ?_
      have HK8 := hide hK8
      clear hK8
      go_wp2_with fail
      go_loop [21, 23] (fun t i => ∃ (k : Nat) (y : Int), k ≤ on ∧ 0 ≤ y ∧ y ≤ 1048576 ∧ i = .int .i64 (k : Int) ∧ t = .int .i64 y) (fun _ i => on - (intOf i).toNat)
      case atStart => exact ⟨0, y, Nat.zero_le _, by omega, by omega, rfl, rfl⟩
      case round =>
        obtain ⟨k2, y2, hk2, hy20, hy21, rfl, rfl⟩ := hrel
        by_cases hlt2 : k2 < on
        · obtain ⟨b1, off, rfl, hb, a', l', c', hcell, _, hrow⟩ := HMo.out.at k2 hlt2
          have hlt2' : (k2 : Int) < (on : Int) := by omega
          have hl1 : l' ≤ 1048576 := by rw [← hrow.1]; exact HSm.out.2 k2 hlt2
          clear hrow
          by_cases h4 : (1048576 : Int) < y2 + 8 * (l' : Int)
          · go_wp2_with fail
            go_ret
            exact ⟨ret_bool rfl, HB.out⟩
          · go_wp2_with fail
            go_round
            case rel => exact ⟨k2 + 1, y2 + 8 * (l' : Int), by omega, by omega, by omega, by go_num, rfl⟩
            case measure => simp [intOf]; omega
        · have hlt2' : ¬ (k2 : Int) < (on : Int) := by omega
          go_wp2_with fail
          refine HK8.out _ _ ?_
          exact t9 _ _ _ _ _ _ _ _ _ _ _ _ _ _ _ _ _ _ _ _ _ _ _ _ _ _ _ _ _ _ _ _ _ _ _ _ _ _ _ _ _ _ _ _ _ _ _ _ _ _ _ _ _ _ _ _ _ _ _ _ _ _ _ _ _ _ _ _ _ _ _ _ _ _ _ _ _ _ _ _ _ _ _ _ _ _ _ _ _ _ _ _ _ _ _ _ _ _ _ _ _ _ _ _ _ _ _ _ _ _ _ _ _ _ _ _ _ _ _ _ _ _ _ _ _ _ _ _ _ _ _ _ _ _ _ _ _ _ _ _ _ _ _ _ _ _ _ _ _ _ _ _ _ _ _ _ _ _ _ _ _ _ _ _ _ _ _ _ _ _ _ _ _ _ _ _ _ _ _ _ _ _ _ _ _ _ _ _ _ _ _ _ _ _ _ _ _ _ _ _ _ _ _ _ _ _ _ _ _ _ _ _ _ _ _ _ _ _ _ _ _ _ _ _ _ _ _ _ _ _ _ _ _ _ _ _ _ _ _ _ _ _ _ _ _ _ _ _ _ _ _ _ _ _ _ _ _ _ _ _ _ _ _ _ _ _ _ _ _ _ _ _ _ _ _ _ _ _ _ _ _ _ _ _ _ _ _ _ _ _ _ _ _ _ _ _ _ _ _ _ _ _ _ _ _ _ _ _ _ _ _ _ _ _ _ _ _ _ _ _ _ _ _ _ _ _ _ _ _ _ _ _ _ _ _ _ _ _ _ _ _ _ _ _ _ _ _ _ _ _ _ _ _ _ _ _ _ _ _ _ _ _ _ _ _ _ _ _ _ _ _ _ _ _ _ _ _ _ _ _ _ _ _ _ _ _ _ _ _ _ _ _ _ _ _ _ _ _ _ _ _ _ _ _ _ _ _ _ _ _ _ _ _ _ _ _ _ _ _ _ _ _ _ _ _ _ _ _ _ _ _ _ _ _ _ _ _ _ _ _ _ _ _ _ _ _ _ _ _ _ _ _ _ _ _ _ _ _ _ _ _ _ _ _ _ _ _ _ _ _ _ _ _ _ _ _ _ _ _ _ _ _ _ _ _ _ _ _ _ _ _ _ _ _ _ _ _ _ _ _ _ _ _ _ _ _ _ _ _ _ _ _ _ _ _ _ _ _ _ _ _ _ _ _ _ _ _ _ _ _ _ _ _ _ _ _ _ _ _ _ _ _ _ _ _ _ _ _ _ _ _ _ _ _ _ _ _ _ _ _ _ _ _ _ _ _ _ _ _ _ _ _ _ _ _ _ _ _ _ _ _ _ _ _ _ _ _ _ _ _ _ _ _ _ _ _ _ _ _ _ _ _ _ _ _ _ _ w0 w _ ga wa na _ n0 c gn gc wn wc nn nc on oc z sz pz fw W nd0 S0 HM HRn HRw HB hb0 hbw hb2 hpz HBr

end Go.Proofs.Qxb6601646a.Nw
