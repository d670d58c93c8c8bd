import Derived.Test.Qxb6601646aNwZat2
import Derived.Deep.CutRange
import Derived.Test.Qxb6601646aNwT22
namespace Go.Proofs.Qxb6601646a.Nw
set_option linter.unusedVariables false
open Go.RowKit Go.Proofs.Qxb6601646a.Tw Go.Proofs.Qxb6601646a.Np

set_option maxHeartbeats 8000000 in
set_option maxRecDepth 1000000 in
theorem t13 (u9 u10 u11 u12 u13 u14 u15 u16 u17 u18 u19 u20 u21 u22 u23 u25 u26 u27 u28 u29 u30 u31 u32 u33 u34 u35 u36 u37 u38 u39 u40 u41 u42 u43 u44 u45 u46 u47 u48 u49 u50 u51 u52 u53 u54 u55 u56 u57 u58 u59 u60 u61 u62 u63 u64 u65 u66 u67 u68 u69 u70 u71 u72 u73 u74 u75 u76 u77 u78 u79 u80 u81 u82 u83 u84 u85 u86 u87 u88 u89 u90 u91 u92 u93 u94 u95 u96 u97 u98 u99 u100 u101 u102 u103 u104 u105 u106 u107 u108 u109 u110 u111 u112 u113 u114 u115 u116 u117 u118 u119 u120 u121 u122 u123 u124 u125 u126 u127 u128 u129 u130 u131 u132 u133 u134 u135 u136 u137 u138 u139 u140 u141 u142 u143 u144 u145 u146 u147 u148 u149 u150 u151 u152 u153 u154 u155 u156 u157 u158 u159 u160 u161 u162 u163 u164 u165 u166 u167 u168 u169 u170 u171 u172 u173 u174 u175 u176 u177 u178 u179 u180 u181 u182 u183 u184 u185 u186 u187 u188 u189 u190 u191 u192 u193 u194 u195 u196 u197 u198 u199 u200 u201 u202 u203 u204 u205 u206 u207 u208 u209 u210 u211 u212 u213 u214 u215 u216 u217 u218 u219 u220 u221 u222 u223 u224 u225 u226 u227 u228 u229 u230 u231 u232 u233 u234 u235 u236 u237 u238 u239 u240 u241 u242 u243 u244 u245 u246 u247 u248 u249 u250 u251 u252 u253 u254 u255 u256 u257 u258 u259 u260 u261 u262 u263 u264 u265 u266 u267 u268 u269 u270 u271 u272 u273 u274 u275 u276 u277 u278 u279 u280 u281 u282 u283 u284 u285 u286 u287 u288 u289 u290 u291 u292 u293 u294 u295 u296 u297 u298 u299 u300 u301 u302 u303 u304 u305 u306 u307 u308 u309 u310 u311 u312 u313 u314 u315 u316 u317 u318 u319 u320 u321 u322 u323 u324 u325 u326 u327 u328 u329 u330 u331 u332 u333 u334 u335 u336 u337 u338 u339 u340 u341 u342 u343 u344 u345 u346 u347 u348 u349 u350 u351 u352 u353 u354 u355 u356 u357 u358 u359 u360 u361 u362 u363 u364 u365 u366 u367 u368 u369 u370 u371 u372 u373 u374 u375 u376 u377 u378 u379 u380 u381 u382 u383 u384 u385 u386 u387 u388 u389 u390 u391 u392 u393 u394 u395 u396 u397 u398 u399 u400 u401 u402 u403 u404 u405 u406 u407 u408 u409 u410 u411 u412 u413 u414 u415 u416 u417 u418 u419 u420 u421 u422 u423 u424 u425 u426 u427 u428 u429 u430 u431 u432 u433 u434 u435 u436 u437 u438 u439 u440 u441 u442 u443 u444 u445 u446 u447 u448 u449 u450 u451 u452 u453 u454 u455 u456 u457 u458 u459 u460 u461 u462 u463 u464 u465 u466 u467 u468 u469 u470 u471 u472 u473 u474 u475 u476 u477 u478 u479 u480 u481 u482 u483 u484 u485 u486 u487 u488 u489 u490 u491 u492 u493 u494 u495 u496 u497 u498 u499 u500 u501 u502 u503 u504 u505 u506 u507 u508 u509 u510 u511 u512 u513 u514 u515 u516 u517 u518 u519 u520 u521 u522 u523 u524 u525 u526 u527 u528 u529 u530 u531 u532 u533 u534 u535 u536 u537 u538 u539 u540 u541 u542 u543 u544 u545 u546 u547 u548 u549 u550 u551 u552 u553 u554 u555 u556 u557 u558 u559 u560 u561 u562 u563 u564 u565 u566 u567 u568 u569 u570 u571 u572 u573 u574 u575 u576 u577 u578 u579 u580 u581 u582 u583 u584 u585 u586 u587 u588 u589 u590 u591 u592 u593 u594 u595 u596 u597 u598 u599 u600 u601 u602 u603 u604 u605 u606 u607 u608 u609 u610 u611 u612 u613 u614 u615 : Value)
    (w0 w : World) (a ga wa na oa : Option Addr) (n0 c gn gc wn wc nn nc on oc size p : Nat) (z : Int) (fw : Bool) (W nd0 : List Int) (S0 : List (List Int)) (HM : Hid (Mat w a n0 S0)) (HRn : Hid (Row w na nn nd0)) (HRw : Hid (Row w wa wn W)) (HI : Hid (Inp n0 size W nd0)) (HB : Hid (Below w0.heap.size w0 w)) (hb0 : n0 ≤ 65536) (hbw : wn ≤ 65536) (hb2 : nn ≤ 131072) (hb1 : size ≤ 65536) (hp1 : 1 ≤ p) (hp63 : p ≤ 9223372036854775807) (HBr : Hid (∀ i, (S0.getD i []).length ≤ 131072)) :
    Code.wp Try.prog (sndN 13 (Try.f3.body.getD .skip)) (bodyPost Try.prog Try.f3 fun e w' => e = .returned (.bool true) ∧ Below w0.heap.size w0 w') ⟨#[(.slice a n0 c), (.slice ga gn gc), (.int .i64 z), (.bool fw), (.int .i64 (size : Int)), (.slice wa wn wc), (.slice na nn nc), (.slice oa on oc), (.int .i64 (p : Int)), u9, u10, u11, u12, u13, u14, u15, u16, u17, u18, u19, u20, u21, u22, u23, (.int .i64 (n0 : Int)), u25, u26, u27, u28, u29, u30, u31, u32, u33, u34, u35, u36, u37, u38, u39, u40, u41, u42, u43, u44, u45, u46, u47, u48, u49, u50, u51, u52, u53, u54, u55, u56, u57, u58, u59, u60, u61, u62, u63, u64, u65, u66, u67, u68, u69, u70, u71, u72, u73, u74, u75, u76, u77, u78, u79, u80, u81, u82, u83, u84, u85, u86, u87, u88, u89, u90, u91, u92, u93, u94, u95, u96, u97, u98, u99, u100, u101, u102, u103, u104, u105, u106, u107, u108, u109, u110, u111, u112, u113, u114, u115, u116, u117, u118, u119, u120, u121, u122, u123, u124, u125, u126, u127, u128, u129, u130, u131, u132, u133, u134, u135, u136, u137, u138, u139, u140, u141, u142, u143, u144, u145, u146, u147, u148, u149, u150, u151, u152, u153, u154, u155, u156, u157, u158, u159, u160, u161, u162, u163, u164, u165, u166, u167, u168, u169, u170, u171, u172, u173, u174, u175, u176, u177, u178, u179, u180, u181, u182, u183, u184, u185, u186, u187, u188, u189, u190, u191, u192, u193, u194, u195, u196, u197, u198, u199, u200, u201, u202, u203, u204, u205, u206, u207, u208, u209, u210, u211, u212, u213, u214, u215, u216, u217, u218, u219, u220, u221, u222, u223, u224, u225, u226, u227, u228, u229, u230, u231, u232, u233, u234, u235, u236, u237, u238, u239, u240, u241, u242, u243, u244, u245, u246, u247, u248, u249, u250, u251, u252, u253, u254, u255, u256, u257, u258, u259, u260, u261, u262, u263, u264, u265, u266, u267, u268, u269, u270, u271, u272, u273, u274, u275, u276, u277, u278, u279, u280, u281, u282, u283, u284, u285, u286, u287, u288, u289, u290, u291, u292, u293, u294, u295, u296, u297, u298, u299, u300, u301, u302, u303, u304, u305, u306, u307, u308, u309, u310, u311, u312, u313, u314, u315, u316, u317, u318, u319, u320, u321, u322, u323, u324, u325, u326, u327, u328, u329, u330, u331, u332, u333, u334, u335, u336, u337, u338, u339, u340, u341, u342, u343, u344, u345, u346, u347, u348, u349, u350, u351, u352, u353, u354, u355, u356, u357, u358, u359, u360, u361, u362, u363, u364, u365, u366, u367, u368, u369, u370, u371, u372, u373, u374, u375, u376, u377, u378, u379, u380, u381, u382, u383, u384, u385, u386, u387, u388, u389, u390, u391, u392, u393, u394, u395, u396, u397, u398, u399, u400, u401, u402, u403, u404, u405, u406, u407, u408, u409, u410, u411, u412, u413, u414, u415, u416, u417, u418, u419, u420, u421, u422, u423, u424, u425, u426, u427, u428, u429, u430, u431, u432, u433, u434, u435, u436, u437, u438, u439, u440, u441, u442, u443, u444, u445, u446, u447, u448, u449, u450, u451, u452, u453, u454, u455, u456, u457, u458, u459, u460, u461, u462, u463, u464, u465, u466, u467, u468, u469, u470, u471, u472, u473, u474, u475, u476, u477, u478, u479, u480, u481, u482, u483, u484, u485, u486, u487, u488, u489, u490, u491, u492, u493, u494, u495, u496, u497, u498, u499, u500, u501, u502, u503, u504, u505, u506, u507, u508, u509, u510, u511, u512, u513, u514, u515, u516, u517, u518, u519, u520, u521, u522, u523, u524, u525, u526, u527, u528, u529, u530, u531, u532, u533, u534, u535, u536, u537, u538, u539, u540, u541, u542, u543, u544, u545, u546, u547, u548, u549, u550, u551, u552, u553, u554, u555, u556, u557, u558, u559, u560, u561, u562, u563, u564, u565, u566, u567, u568, u569, u570, u571, u572, u573, u574, u575, u576, u577, u578, u579, u580, u581, u582, u583, u584, u585, u586, u587, u588, u589, u590, u591, u592, u593, u594, u595, u596, u597, u598, u599, u600, u601, u602, u603, u604, u605, u606, u607, u608, u609, u610, u611, u612, u613, u614, u615], []⟩ w := by
  conv => arg 2; whnf
  refine wp_seq_k fun K13 hK13 => ?_
  have HK13 := hide hK13
  clear hK13
  have H10 : Hid (Calls Try.prog 10 #[.slice a n0 c] w (SPost w n0 S0)) := clone_succ a n0 c S0 w HM.out (by omega) (fun j _ => Nat.le_trans (HBr.out j) (by omega))
  go_wp2_with fail
  refine H10.out.mono ?_
  rintro e w1 ⟨sv, rv, rfl, HS⟩
  clear H10
  obtain ⟨sva, svc, rfl⟩ := own_val HS.out.1
  go_wp2_with fail
  refine HK13.out _ _ ?_
  clear HK13
  refine wp_seq_k fun K14 hK14 => ?_
  have HK14 := hide hK14
  clear hK14
  have H11 : Hid (Calls Try.prog 11 #[.slice na nn nc] w1 (CPost w1 nn nd0)) := clone_ints na nn nc nd0 w1 (HRn.out.keep HS.out.2.2) (by omega)
  go_wp2_with fail
  refine H11.out.mono ?_
  rintro e w2 ⟨nv, rfl, HV⟩
  clear H11
  obtain ⟨nb, hnd, hrows, hnb1, hnb2, hsv2, hb2'⟩ := clone_nb HS.out.2.1 HS.out.2.2 HV.out HS.out.1
  have hn0l : S0.length = n0 := HM.out.1
  have hnl : nd0.length = nn := HRn.out.1
  have H12 : Hid (Calls Try.prog 12 #[.slice sva n0 svc, .slice ga gn gc, .int .i64 z, .bool fw, .int .i64 (size : Int), .slice wa wn wc, nv, .slice oa on oc, .int .i64 (p : Int)] w2 (ZRes w.heap.size nb n0 size w fw W nd0 S0 p nv)) := by
    refine zat_any2 ⟨rfl, HRw.out, hbw, hn0l, hb0, hb1, by omega, HBr.out⟩ ⟨HI.out, hp1, fun k l r h => by simp at h, rfl, fun q _ => rfl, by simp⟩ hp63 hb2' hnd ?_ hrows hnb1 hnb2 hb2'.size
    rw [hn0l]; exact hsv2
  obtain ⟨nva, nvn, nvc, rfl⟩ : ∃ nva nvn nvc, nv = .slice nva nvn nvc := by
    rcases hnd with ⟨_, rfl⟩ | ⟨_, rfl⟩
    · exact ⟨_, _, _, rfl⟩
    · exact ⟨_, _, _, rfl⟩
  clear HV HS hnd hrows hsv2
  go_wp2_with fail
  refine HK14.out _ _ ?_
  clear HK14
  refine wp_seq_k fun K15 hK15 => ?_
  have HK15 := hide hK15
  clear hK15
  go_wp2_with fail
  refine H12.out.mono ?_
  rintro e w3 ⟨v, J, nd', S', sv', rv', G, N, gv, tv, wv, ov, rfl, HA, HG, HGM⟩
  clear H12 hb2'
  obtain ⟨sa, sc, rfl⟩ := own_val HGM.out.hsv
  have hS' : S'.length = n0 + J.length := by rw [HG.out.len, hn0l]
  have hJs : J.length ≤ size := by
    have h1 := HA.out.num
    have h2 := cnt_le size nd0
    simp only [List.length_nil] at h1
    omega
  have HM1 : Hid (Mat w3 sa S'.length S') := gm_mat HGM.out (gr_small HG.out (by omega) HBr.out)
  obtain ⟨na', nc', hnv, hrow'⟩ := gm_node HGM.out (HA.out.len.trans hnl)
  have HR1 : Hid (Row w3 na' nn nd') := hrow'
  cases hnv
  have HB3 : Hid (Below w.heap.size w w3) := HGM.out.bel
  clear hrow' HGM
  rw [hS'] at HM1
  go_wp2_with fail
  try rw [hS']
  refine HK15.out _ _ ?_
  clear HK15
  refine wp_seq_k fun K16 hK16 => ?_
  have HK16 := hide hK16
  clear hK16
  have mk1 := mkb size hb1
  have mk2 := mks size hb1
  obtain ⟨H3, hH3⟩ : ∃ H3, w3.heap.size = H3 := ⟨_, rfl⟩
  go_wp2_with fail
  refine HK16.out _ _ ?_
  clear HK16
  refine wp_seq_k fun K17 hK17 => ?_
  have HK17 := hide hK17
  clear hK17
  go_wp2_with fail
  refine HK17.out _ _ ?_
  clear HK17
  refine wp_seq_k fun K18 hK18 => ?_
  have HK18 := hide hK18
  clear hK18
  have HB5 : Hid (Below w3.heap.size w3 ((w3.alloc (.cells (bv (List.replicate size false)).toArray 4)).alloc (.cells (Array.replicate size nilv) 23))) := ((Below.refl _ _).alloc (Nat.le_refl _) _).alloc (by simp) _
  have HV5 : Hid (Arr ((w3.alloc (.cells (bv (List.replicate size false)).toArray 4)).alloc (.cells (Array.replicate size nilv) 23)) H3 4 (bv (List.replicate size false))) := (arr_new _ hH3).alloc _
  have HS5 : Hid (Arr ((w3.alloc (.cells (bv (List.replicate size false)).toArray 4)).alloc (.cells (Array.replicate size nilv) 23)) (H3 + 1) 23 (List.replicate size nilv)) := by
    have h := arr_new (w := w3.alloc (.cells (bv (List.replicate size false)).toArray 4)) (g := H3 + 1) (t := 23) (List.replicate size nilv) (by simp [hH3])
    rw [List.toArray_replicate] at h
    exact h
  generalize (w3.alloc (.cells (bv (List.replicate size false)).toArray 4)).alloc (.cells (Array.replicate size nilv) 23) = w5 at *
  have hwl : w.heap.size ≤ H3 := by have := HB3.out.size; omega
  have HBw5 : Hid (Below w.heap.size w w5) := bel_next HB3.out HB5.out
  have H13 : Hid (Calls Try.prog 13 #[.int .i64 (p : Int), .int .i64 (size : Int), .slice wa wn wc, .slice na nn nc, .slice (some ⟨H3, 0, none⟩) size size, .slice (some ⟨H3 + 1, 0, none⟩) size size] w5 (NRes H3 (H3 + 1) size W nd0 p w5 (List.replicate size false) (List.replicate size nilv))) := set_any HI.out hb0 hb1 hbw hb2 (by omega) (size - p + 1) p w5 _ _ (by omega) hp1 hp63 (rown_of HRw.out HBw5.out hwl (by omega)) (rown_of HRn.out HBw5.out hwl (by omega)) HV5.out HS5.out (by simp) (by simp)
  clear mk1 mk2 HV5 HS5
  go_wp2_with fail
  refine H13.out.mono ?_
  rintro e w6 ⟨val, vis', sl', rfl, HSl, HNs⟩
  clear H13
  obtain ⟨wa1, wn1, wc1, sw, rfl, hwn1, hroww, hsetw⟩ := HSl.out
  have HWw : Hid (Row w6 wa1 wn1 (ints sw) ∧ SetOf (In size W nd0 p) sw) := ⟨hroww.row, hsetw⟩
  have KX := cx_make (sa := sa) (na' := nva) HM.out HRn.out (by have := HM1.out; rw [← hS'] at this; exact this) HR1.out HB3.out HB5.out (by omega) (by omega) HNs.out HA.out HG.out HI.out hb0 hb1 hb2 HBr.out
  have HC : Hid (Cx w6 a sa na nva n0 J.length nn size p H3 (H3 + 1) v fw W nd0 nd' S0 S' J) := KX.1
  have HB6 : Hid (Below w0.heap.size w0 w6) := bel_next HB.out KX.2
  clear KX HSl HNs hroww hsetw HB5 HBw5 HM1 HR1 HB3
  generalize hnjj : J.length = nj at *
  go_wp2_with fail
  refine HK18.out _ _ ?_
  clear HK18
  refine wp_seq_k fun K19 hK19 => ?_
  have HK19 := hide hK19
  clear hK19
  have t1 : ¬ ((n0 + nj : Nat) : Int) < (n0 : Int) := by omega
  have t2 : ¬ (n0 : Int) + (nj : Int) < (n0 : Int) := by omega
  have t3 : decide ((n0 : Int) + (nj : Int) < (n0 : Int)) = false := by simp; omega
  have t3' : decide (((n0 + nj : Nat) : Int) < (n0 : Int)) = false := by simp; omega
  have t4 : ((nn : Int) != (nn : Int)) = false := by simp
  go_wp2_with fail
  refine HK19.out _ _ ?_
  clear HK19
  refine wp_seq_k fun K20 hK20 => ?_
  have HK20 := hide hK20
  clear hK20
  have t5 : ((n0 + nj : Nat) : Int) - (n0 : Int) = (nj : Int) := by omega
  have t6 : (n0 : Int) + (nj : Int) - (n0 : Int) = (nj : Int) := by omega
  go_wp2_with fail
  refine HK20.out _ _ ?_
  clear HK20
  refine wp_seq_k fun K21 hK21 => ?_
  have HK21 := hide hK21
  clear hK21
  have t7 : ¬ (size : Int) < (nj : Int) := by omega
  go_wp2_with fail
  refine HK21.out _ _ ?_
  clear HK21
  exact t22 _ _ _ _ _ _ _ _ _ _ _ _ _ _ _ _ _ _ _ _ _ _ _ _ _ _ _ _ _ _ _ _ _ _ _ _ _ _ _ _ _ _ _ _ _ _ _ _ _ _ _ _ _ _ _ _ _ _ _ _ _ _ _ _ _ _ _ _ _ _ _ _ _ _ _ _ _ _ _ _ _ _ _ _ _ _ _ _ _ _ _ _ _ _ _ _ _ _ _ _ _ _ _ _ _ _ _ _ _ _ _ _ _ _ _ _ _ _ _ _ _ _ _ _ _ _ _ _ _ _ _ _ _ _ _ _ _ _ _ _ _ _ _ _ _ _ _ _ _ _ _ _ _ _ _ _ _ _ _ _ _ _ _ _ _ _ _ _ _ _ _ _ _ _ _ _ _ _ _ _ _ _ _ _ _ _ _ _ _ _ _ _ _ _ _ _ _ _ _ _ _ _ _ _ _ _ _ _ _ _ _ _ _ _ _ _ _ _ _ _ _ _ _ _ _ _ _ _ _ _ _ _ _ _ _ _ _ _ _ _ _ _ _ _ _ _ _ _ _ _ _ _ _ _ _ _ _ _ _ _ _ _ _ _ _ _ _ _ _ _ _ _ _ _ _ _ _ _ _ _ _ _ _ _ _ _ _ _ _ _ _ _ _ _ _ _ _ _ _ _ _ _ _ _ _ _ _ _ _ _ _ _ _ _ _ _ _ _ _ _ _ _ _ _ _ _ _ _ _ _ _ _ _ _ _ _ _ _ _ _ _ _ _ _ _ _ _ _ _ _ _ _ _ _ _ _ _ _ _ _ _ _ _ _ _ _ _ _ _ _ _ _ _ _ _ _ _ _ _ _ _ _ _ _ _ _ _ _ _ _ _ _ _ _ _ _ _ _ _ _ _ _ _ _ _ _ _ _ _ _ _ _ _ _ _ _ _ _ _ _ _ _ _ _ _ _ _ _ _ _ _ _ _ _ _ _ _ _ _ _ _ _ _ _ _ _ _ _ _ _ _ _ _ _ _ _ _ _ _ _ _ _ _ _ _ _ _ _ _ _ _ _ _ _ _ _ _ _ _ _ _ _ _ _ _ _ _ _ _ _ _ _ _ _ _ _ _ _ _ _ _ _ _ _ _ _ _ _ _ _ _ _ _ _ _ _ _ _ _ _ _ _ _ _ _ _ _ _ _ _ _ _ _ _ _ _ _ _ _ _ _ _ _ _ _ _ _ _ _ _ _ _ _ _ _ _ _ _ _ _ _ _ _ _ _ _ _ _ _ _ _ _ _ _ _ _ _ _ _ _ _ _ _ _ _ _ _ _ _ _ _ _ _ _ _ _ _ _ _ _ _ _ _ w0 w6 a sa na nva wa1 n0 c nj sc nn nvc size p H3 (H3 + 1) wn1 wc1 v fw W nd0 nd' S0 S' J sw nc HC HB6 HWw hwn1 hp63

end Go.Proofs.Qxb6601646a.Nw
