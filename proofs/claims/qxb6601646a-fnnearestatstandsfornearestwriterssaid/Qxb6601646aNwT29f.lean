import Derived.Test.Qxb6601646aNwAdj
import Derived.Deep.CutRange
import Derived.Test.Qxb6601646aNwT31
namespace Go.Proofs.Qxb6601646a.Nw
set_option linter.unusedVariables false
open Go.RowKit Go.Proofs.Qxb6601646a.Tw Go.Proofs.Qxb6601646a.Np

set_option maxHeartbeats 4000000 in
set_option maxRecDepth 1000000 in
theorem t29f (u1 u2 u5 u6 u7 u8 u9 u10 u11 u12 u13 u14 u15 u16 u17 u18 u19 u20 u21 u22 u23 u25 u26 u27 u28 u29 u34 u36 u37 u38 u39 u40 u41 u42 u43 u44 u45 u46 u47 u48 u49 u50 u51 u52 u53 u54 u55 u56 u57 u58 u59 u60 u61 u62 u63 u64 u65 u66 u67 u68 u69 u70 u71 u72 u73 u74 u75 u76 u77 u78 u79 u80 u81 u82 u83 u84 u85 u86 u87 u88 u89 u90 u91 u92 u93 u94 u95 u96 u97 u98 u99 u100 u101 u102 u103 u104 u105 u106 u107 u108 u109 u110 u111 u112 u113 u114 u115 u116 u117 u118 u119 u120 u121 u122 u123 u124 u125 u126 u127 u128 u129 u130 u131 u132 u133 u134 u135 u136 u137 u138 u139 u140 u141 u142 u143 u144 u145 u146 u147 u148 u149 u150 u151 u152 u153 u154 u155 u156 u157 u158 u159 u160 u161 u162 u163 u164 u165 u166 u167 u168 u169 u170 u171 u172 u173 u174 u175 u176 u177 u178 u179 u180 u181 u182 u183 u184 u185 u186 u187 u188 u189 u190 u191 u192 u193 u194 u195 u196 u197 u198 u199 u200 u201 u202 u203 u204 u205 u206 u207 u208 u209 u210 u211 u212 u213 u214 u215 u216 u217 u218 u219 u220 u221 u222 u223 u224 u225 u226 u227 u228 u229 u230 u231 u232 u233 u234 u235 u236 u237 u238 u239 u240 u241 u242 u243 u244 u245 u246 u247 u248 u249 u250 u251 u252 u253 u254 u255 u256 u257 u258 u259 u260 u261 u262 u263 u264 u265 u266 u267 u268 u269 u270 u271 u272 u273 u274 u275 u276 u277 u278 u279 u280 u281 u282 u283 u284 u285 u286 u287 u288 u289 u290 u291 u292 u293 u294 u295 u296 u297 u298 u299 u300 u301 u302 u303 u304 u305 u306 u307 u308 u309 u310 u311 u312 u313 u314 u315 u316 u317 u318 u319 u320 u321 u322 u323 u324 u325 u326 u327 u328 u329 u330 u331 u332 u333 u334 u335 u336 u337 u338 u339 u340 u341 u342 u343 u344 u345 u346 u347 u348 u349 u350 u351 u352 u353 u354 u355 u356 u357 u358 u359 u360 u361 u362 u363 u364 u365 u366 u367 u368 u369 u370 u371 u372 u373 u374 u375 u376 u377 u378 u379 u380 u381 u382 u383 u384 u385 u386 u387 u388 u389 u390 u391 u392 u393 u394 u395 u396 u397 u398 u399 u400 u401 u402 u403 u404 u405 u406 u407 u408 u409 u410 u411 u412 u413 u414 u415 u416 u417 u418 u419 u420 u421 u422 u423 u424 u425 u426 u427 u428 u429 u430 u431 u432 u433 u434 u435 u436 u437 u438 u439 u440 u441 u442 u443 u444 u445 u446 u447 u448 u449 u450 u451 u452 u453 u454 u455 u456 u457 u458 u459 u460 u461 u462 u463 u464 u465 u466 u467 u468 u469 u470 u471 u472 u473 u474 u475 u476 u477 u478 u479 u480 u481 u482 u483 u484 u485 u486 u487 u488 u489 u490 u491 u492 u493 u494 u495 u496 u497 u498 u499 u500 u501 u502 u503 u504 u505 u506 u507 u508 u509 u510 u511 u512 u513 u514 u515 u516 u517 u518 u519 u520 u521 u522 u523 u524 u525 u526 u527 u528 u529 u530 u531 u532 u533 u534 u535 u536 u537 u538 u539 u540 u541 u542 u543 u544 u545 u546 u547 u548 u549 u550 u551 u552 u553 u554 u555 u556 u557 u558 u559 u560 u561 u562 u563 u564 u565 u566 u567 u568 u569 u570 u571 u572 u573 u574 u575 u576 u577 u578 u579 u580 u581 u582 u583 u584 u585 u586 u587 u588 u589 u590 u591 u592 u593 u594 u595 u596 u597 u598 u599 u600 u601 u602 u603 u604 u605 u606 u607 u608 u609 u610 u611 u612 u613 u614 u615 : Value)
    (w0 w : World) (a sa na na' : Option Addr) (n0 c nj sc nn nc' size p vb sb : Nat) (v : Int) (W nd0 nd' : List Int) (S0 S : List (List Int)) (J : List (Nat × Nat)) (HC : Hid (Cx w a sa na na' n0 nj nn size p vb sb v true W nd0 nd' S0 S J)) (HB : Hid (Below w0.heap.size w0 w)) :
    Code.wp Try.prog (sndN 29 (Try.f3.body.getD .skip)) (bodyPost Try.prog Try.f3 fun e w' => e = .returned (.bool true) ∧ Below w0.heap.size w0 w') ⟨#[(.slice a n0 c), u1, u2, (.bool true), (.int .i64 (size : Int)), u5, u6, u7, u8, u9, u10, u11, u12, u13, u14, u15, u16, u17, u18, u19, u20, u21, u22, u23, (.int .i64 (n0 : Int)), u25, u26, u27, u28, u29, (.slice sa (n0 + nj) sc), (.slice na' nn nc'), (.slice (some ⟨vb, 0, none⟩) size size), (.slice (some ⟨sb, 0, none⟩) size size), u34, (.int .i64 (nj : Int)), u36, u37, u38, u39, u40, u41, u42, u43, u44, u45, u46, u47, u48, u49, u50, u51, u52, u53, u54, u55, u56, u57, u58, u59, u60, u61, u62, u63, u64, u65, u66, u67, u68, u69, u70, u71, u72, u73, u74, u75, u76, u77, u78, u79, u80, u81, u82, u83, u84, u85, u86, u87, u88, u89, u90, u91, u92, u93, u94, u95, u96, u97, u98, u99, u100, u101, u102, u103, u104, u105, u106, u107, u108, u109, u110, u111, u112, u113, u114, u115, u116, u117, u118, u119, u120, u121, u122, u123, u124, u125, u126, u127, u128, u129, u130, u131, u132, u133, u134, u135, u136, u137, u138, u139, u140, u141, u142, u143, u144, u145, u146, u147, u148, u149, u150, u151, u152, u153, u154, u155, u156, u157, u158, u159, u160, u161, u162, u163, u164, u165, u166, u167, u168, u169, u170, u171, u172, u173, u174, u175, u176, u177, u178, u179, u180, u181, u182, u183, u184, u185, u186, u187, u188, u189, u190, u191, u192, u193, u194, u195, u196, u197, u198, u199, u200, u201, u202, u203, u204, u205, u206, u207, u208, u209, u210, u211, u212, u213, u214, u215, u216, u217, u218, u219, u220, u221, u222, u223, u224, u225, u226, u227, u228, u229, u230, u231, u232, u233, u234, u235, u236, u237, u238, u239, u240, u241, u242, u243, u244, u245, u246, u247, u248, u249, u250, u251, u252, u253, u254, u255, u256, u257, u258, u259, u260, u261, u262, u263, u264, u265, u266, u267, u268, u269, u270, u271, u272, u273, u274, u275, u276, u277, u278, u279, u280, u281, u282, u283, u284, u285, u286, u287, u288, u289, u290, u291, u292, u293, u294, u295, u296, u297, u298, u299, u300, u301, u302, u303, u304, u305, u306, u307, u308, u309, u310, u311, u312, u313, u314, u315, u316, u317, u318, u319, u320, u321, u322, u323, u324, u325, u326, u327, u328, u329, u330, u331, u332, u333, u334, u335, u336, u337, u338, u339, u340, u341, u342, u343, u344, u345, u346, u347, u348, u349, u350, u351, u352, u353, u354, u355, u356, u357, u358, u359, u360, u361, u362, u363, u364, u365, u366, u367, u368, u369, u370, u371, u372, u373, u374, u375, u376, u377, u378, u379, u380, u381, u382, u383, u384, u385, u386, u387, u388, u389, u390, u391, u392, u393, u394, u395, u396, u397, u398, u399, u400, u401, u402, u403, u404, u405, u406, u407, u408, u409, u410, u411, u412, u413, u414, u415, u416, u417, u418, u419, u420, u421, u422, u423, u424, u425, u426, u427, u428, u429, u430, u431, u432, u433, u434, u435, u436, u437, u438, u439, u440, u441, u442, u443, u444, u445, u446, u447, u448, u449, u450, u451, u452, u453, u454, u455, u456, u457, u458, u459, u460, u461, u462, u463, u464, u465, u466, u467, u468, u469, u470, u471, u472, u473, u474, u475, u476, u477, u478, u479, u480, u481, u482, u483, u484, u485, u486, u487, u488, u489, u490, u491, u492, u493, u494, u495, u496, u497, u498, u499, u500, u501, u502, u503, u504, u505, u506, u507, u508, u509, u510, u511, u512, u513, u514, u515, u516, u517, u518, u519, u520, u521, u522, u523, u524, u525, u526, u527, u528, u529, u530, u531, u532, u533, u534, u535, u536, u537, u538, u539, u540, u541, u542, u543, u544, u545, u546, u547, u548, u549, u550, u551, u552, u553, u554, u555, u556, u557, u558, u559, u560, u561, u562, u563, u564, u565, u566, u567, u568, u569, u570, u571, u572, u573, u574, u575, u576, u577, u578, u579, u580, u581, u582, u583, u584, u585, u586, u587, u588, u589, u590, u591, u592, u593, u594, u595, u596, u597, u598, u599, u600, u601, u602, u603, u604, u605, u606, u607, u608, u609, u610, u611, u612, u613, u614, u615], []⟩ w := by
  conv => arg 2; whnf
  obtain ⟨i3, hi3, hz30, hz31, hz32⟩ := info_parts info3
  obtain ⟨i23, hi23, hy0, hy1, hy2⟩ := info_parts info23
  have hb0 := HC.out.b0
  have hb1 := HC.out.b1
  have hb3 := HC.out.b3
  have hn0l : S0.length = n0 := HC.out.m0.1
  refine wp_seq_k fun K0 hK0 => ?_
  have HK0 := hide hK0
  clear hK0
  go_wp2_with (at_make; refine wpList_make_full _ rfl _ _ 22 rfl w.heap.size 23 i23 (.slice none 0 0) 1 Try.underlying22 hi23 hy0 hy1 _ _ _ _ nj rfl rfl rfl rfl (by rw [hy2]; omega) (by unfold maxLen; omega) (by omega) ?_; intro w1 hown1 hgrow1; have HA : Hid (AS w w1 (List.replicate nj nilv) (List.replicate nj [])) := as_start hown1 hgrow1; clear hown1 hgrow1)
  refine HK0.out _ _ ?_
  clear HK0
  refine wp_seq_k fun K1 hK1 => ?_
  have HK1 := hide hK1
  clear hK1
  go_wp2_with fail
  have HJ0 : Hid (Adj n0 S0 S nj 0 0 300000 (List.replicate nj [])) := adj_start n0 S0 S nj 0 300000 (Nat.zero_le _)
  go_loopw [46] (fun iv wr => ∃ (i : Nat) (rv : List Value) (adj : List (List Int)), i ≤ n0 ∧ iv = .int .i64 (i : Int) ∧ Hid (AS w wr rv adj) ∧ Hid (Adj n0 S0 S nj i 0 300000 adj)) (fun iv _ => n0 - (intOf iv).toNat)
  case atStart => exact ⟨0, _, _, Nat.zero_le _, rfl, HA, HJ0⟩
  case round =>
    clear HA HJ0
    obtain ⟨i, rv, adj, hi, rfl, HA, HJ⟩ := hrel
    by_cases hin : i < n0
    · have hin' : (i : Int) < (n0 : Int) := by omega
      obtain ⟨ab0, aoff, rfl, hab, a2, l2, c2, hcr2, _, hrow2⟩ := HC.out.m0.at i hin
      have crow0 := (HA.out.bel.cell (p := ⟨ab0, aoff + i, none⟩) hab).trans hcr2
      have HL2 : Hid ((S0.getD i []).length = l2) := hrow2.1
      have hin2 : (i : Int) < ((n0 + nj : Nat) : Int) := by omega
      have hin3 : (i : Int) < (n0 : Int) + (nj : Int) := by omega
      clear hcr2 hrow2
      have hlen : S.length = n0 + nj := HC.out.m1.1
      obtain ⟨sab, soff, hsa, hsab, a1, l1, c1, hcr, _, hrow⟩ := HC.out.m1.at i (by omega)
      have HRow : Hid (Row w a1 l1 (S.getD i [])) := hrow
      have Hcr : Hid (w.cell? ⟨sab, soff + i, none⟩ = some (.slice a1 l1 c1)) := hcr
      have hl01 : l2 ≤ l1 := by rw [← HRow.out.1, ← HL2.out]; exact gr_len HC.out.gr i
      have hl1 : l1 ≤ 300000 := by rw [← HRow.out.1]; exact gr_small HC.out.gr (by rw [HC.out.jl]; omega) HC.out.br i
      have crow := (HA.out.bel.cell (p := ⟨sab, soff + i, none⟩) hsab).trans hcr
      have HJo : Hid (Adj n0 S0 S nj i l2 300000 adj) := by have := adj_open HJ.out; rw [HL2.out] at this; exact this
      subst hsa
      clear hcr hrow HJ
      go_wp2_with fail
      go_loopw [47] (fun kv wr => ∃ (kk : Nat) (rv : List Value) (adj : List (List Int)), l2 ≤ kk ∧ kk ≤ l1 ∧ kv = .int .i64 (kk : Int) ∧ Hid (AS w wr rv adj) ∧ Hid (Adj n0 S0 S nj i kk 300000 adj)) (fun kv _ => l1 - (intOf kv).toNat)
      case atStart => exact ⟨l2, rv, adj, Nat.le_refl _, hl01, rfl, HA, HJo⟩
      case round =>
        clear HA HJo crow crow0
        obtain ⟨kk, rv, adj, hk0, hk1, rfl, HA, HJ⟩ := hrel
        have crow := (HA.out.bel.cell (p := ⟨sab, soff + i, none⟩) hsab).trans Hcr.out
        by_cases hkl : kk < l1
        · have hkl' : (kk : Int) < (l1 : Int) := by omega
          obtain ⟨b1, off1, rfl, hb1, hc1⟩ := HRow.out.at kk hkl
          have cx := (HA.out.bel.cell (p := ⟨b1, off1 + kk, none⟩) hb1).trans hc1
          have EX : Hid ((S.getD i [])[kk]? = some ((S.getD i []).getD kk 0)) := getD_of (by rw [HRow.out.1]; exact hkl) 0
          obtain ⟨j, hj, hx⟩ := gr_fw HC.out.gr (by rw [HL2.out]; exact hk0) EX.out
          rw [HC.out.jl] at hj
          rw [hn0l] at hx
          rw [hx] at cx EX
          have HJ2 : Hid (Adj n0 S0 S nj i (kk + 1) 300000 (addE adj j (i : Int))) := adj_add HJ.out hj (by rw [HL2.out]; exact hk0) EX.out
          have hal : adj.length = nj := HJ.out.len
          obtain ⟨ra, rc, er, ca, fa⟩ := HA.out.cell (j := j) (by omega)
          have ER : Hid (rv.getD j nilv = .slice ra (adj.getD j []).length rc) := er
          have HO : Hid (wr.ownsRow w.heap.size 3 1 (.slice ra (adj.getD j []).length rc) (adj.getD j []).length (zv (adj.getD j []))) := by have := HA.out.rows.own j; rw [er] at this; exact this
          have hrl : (adj.getD j []).length ≤ 40000000000 := by
            have := HJ.out.siz j
            have : i * 300000 ≤ 131072 * 300000 := Nat.mul_le_mul_right _ (by omega)
            omega
          have hsz : w.heap.size < wr.heap.size := HA.out.arr.lt
          have HEnd : Hid (∀ (o : Obj) (w2 : World) (g cap : Nat), w2.ownsRow w.heap.size 3 1 (.slice (some ⟨g, 0, none⟩) ((adj.getD j []).length + 1) cap) ((adj.getD j []).length + 1) (zv (adj.getD j []) ++ [.int .i64 (i : Int)]) → (wr.alloc o).grownBy w2 (Value.slice ra (adj.getD j []).length rc).ownBlock → ((Value.slice ra (adj.getD j []).length rc).ownBlock = some g ∨ g = wr.heap.size + 1) → Hid (AS w (w2.setCell ⟨w.heap.size, j, none⟩ (.slice (some ⟨g, 0, none⟩) ((adj.getD j []).length + 1) cap)) (rv.set j (.slice (some ⟨g, 0, none⟩) ((adj.getD j []).length + 1) cap)) (addE adj j (i : Int))) ∧ w2.cell? ⟨w.heap.size, j, none⟩ = some (.slice ra (adj.getD j []).length rc) ∧ w2.frozen? ⟨w.heap.size, j, none⟩ = false) := fun o w2 g cap h1 h2 h3 => HA.out.push (by omega) ER.out rfl h1 h2 h3
          have ejn : n0 + j - n0 = j := by omega
          have hji : ((n0 + j : Nat) : Int) - (n0 : Int) = (j : Int) := by omega
          have hji2 : (n0 : Int) + (j : Int) - (n0 : Int) = (j : Int) := by omega
          have hjn' : (j : Int) < (nj : Int) := by omega
          have j0 : (0 : Int) ≤ (j : Int) := by omega
          generalize hRL : (adj.getD j []).length = rl at *
          clear er hc1 hx HJ EX
          go_wp2_with (at_builtin; refine wpList_append_lies _ rfl _ _ 23 rfl w.heap.size 3 i3 (.int .i64 0) 1 8 Try.underlying23 hi3 hz30 hz31 hz32 rfl (by decide) _ rl _ rfl (HO.out.alloc _) ⟨wr.heap.size, 0, none⟩ 1 1 [.int .i64 (i : Int)] rfl rfl (cell_one_at rfl _ _) (by simp [Value.oneCell']) (by omega) (by unfold maxLen; omega) (by omega) (by simp; omega) (wr.heap.size + 1) (by simp) ?_; intro g1 cap1 w2 hown2 hgrow hat hlt1; have K := HEnd.out _ w2 g1 cap1 hown2 hgrow hat; have KA := K.1; have kc := K.2.1; have kf := K.2.2; clear K hown2 hgrow hat)
          go_roundw
          case rel => exact ⟨kk + 1, _, _, by omega, by omega, by go_num, KA, HJ2⟩
          case measure => simp [intOf]; omega
        · have hkl' : ¬ (kk : Int) < (l1 : Int) := by omega
          have HJ2 : Hid (Adj n0 S0 S nj (i + 1) 0 300000 adj) := adj_close HJ.out (by rw [HRow.out.1]; omega) (by omega)
          clear HJ
          go_wp2_with fail
          go_roundw
          case rel => exact ⟨i + 1, rv, adj, by omega, by go_num, HA, HJ2⟩
          case measure => simp [intOf]; omega
    · have hin' : ¬ (i : Int) < (n0 : Int) := by omega
      have HJn : Hid (Adj n0 S0 S nj n0 0 300000 adj) := by have := HJ.out; rw [show i = n0 from by omega] at this; exact this
      clear HJ hin hi
      go_wp2_with fail
      go_loopw [49] (fun iv wr => ∃ (i : Nat) (rv : List Value) (adj : List (List Int)), n0 ≤ i ∧ i ≤ n0 + nj ∧ iv = .int .i64 (i : Int) ∧ Hid (AS w wr rv adj) ∧ Hid (Adj n0 S0 S nj i 0 300000 adj)) (fun iv _ => n0 + nj - (intOf iv).toNat)
      case atStart => exact ⟨n0, rv, adj, Nat.le_refl _, by omega, rfl, HA, HJn⟩
      case round =>
        clear HA HJn
        obtain ⟨i, rv, adj, hi0, hi1, rfl, HA, HJ⟩ := hrel
        by_cases hin : i < n0 + nj
        · have hin' : (i : Int) < ((n0 + nj : Nat) : Int) := by omega
          have hin2 : (i : Int) < (n0 : Int) + (nj : Int) := by omega
          have HL2 : Hid ((S0.getD i []).length = 0) := by show _ = _; rw [getD_over S0 (by omega)]; rfl
          have hlen : S.length = n0 + nj := HC.out.m1.1
          obtain ⟨sab, soff, hsa, hsab, a1, l1, c1, hcr, _, hrow⟩ := HC.out.m1.at i (by omega)
          have HRow : Hid (Row w a1 l1 (S.getD i [])) := hrow
          have Hcr : Hid (w.cell? ⟨sab, soff + i, none⟩ = some (.slice a1 l1 c1)) := hcr
          have hl01 : 0 ≤ l1 := by rw [← HRow.out.1, ← HL2.out]; exact gr_len HC.out.gr i
          have hl1 : l1 ≤ 300000 := by rw [← HRow.out.1]; exact gr_small HC.out.gr (by rw [HC.out.jl]; omega) HC.out.br i
          have crow := (HA.out.bel.cell (p := ⟨sab, soff + i, none⟩) hsab).trans hcr
          have HJo : Hid (Adj n0 S0 S nj i 0 300000 adj) := by have := adj_open HJ.out; rw [HL2.out] at this; exact this
          subst hsa
          clear hcr hrow HJ
          have crow0 : True := trivial
          go_wp2_with fail
          go_loopw [50] (fun kv wr => ∃ (kk : Nat) (rv : List Value) (adj : List (List Int)), 0 ≤ kk ∧ kk ≤ l1 ∧ kv = .int .i64 (kk : Int) ∧ Hid (AS w wr rv adj) ∧ Hid (Adj n0 S0 S nj i kk 300000 adj)) (fun kv _ => l1 - (intOf kv).toNat)
          case atStart => exact ⟨0, rv, adj, Nat.le_refl _, hl01, rfl, HA, HJo⟩
          case round =>
            clear HA HJo crow crow0
            obtain ⟨kk, rv, adj, hk0, hk1, rfl, HA, HJ⟩ := hrel
            have crow := (HA.out.bel.cell (p := ⟨sab, soff + i, none⟩) hsab).trans Hcr.out
            by_cases hkl : kk < l1
            · have hkl' : (kk : Int) < (l1 : Int) := by omega
              obtain ⟨b1, off1, rfl, hb1, hc1⟩ := HRow.out.at kk hkl
              have cx := (HA.out.bel.cell (p := ⟨b1, off1 + kk, none⟩) hb1).trans hc1
              have EX : Hid ((S.getD i [])[kk]? = some ((S.getD i []).getD kk 0)) := getD_of (by rw [HRow.out.1]; exact hkl) 0
              obtain ⟨j, hj, hx⟩ := gr_fw HC.out.gr (by rw [HL2.out]; exact hk0) EX.out
              rw [HC.out.jl] at hj
              rw [hn0l] at hx
              rw [hx] at cx EX
              have HJ2 : Hid (Adj n0 S0 S nj i (kk + 1) 300000 (addE adj j (i : Int))) := adj_add HJ.out hj (by rw [HL2.out]; exact hk0) EX.out
              have hal : adj.length = nj := HJ.out.len
              obtain ⟨ra, rc, er, ca, fa⟩ := HA.out.cell (j := j) (by omega)
              have ER : Hid (rv.getD j nilv = .slice ra (adj.getD j []).length rc) := er
              have HO : Hid (wr.ownsRow w.heap.size 3 1 (.slice ra (adj.getD j []).length rc) (adj.getD j []).length (zv (adj.getD j []))) := by have := HA.out.rows.own j; rw [er] at this; exact this
              have hrl : (adj.getD j []).length ≤ 40000000000 := by
                have := HJ.out.siz j
                have : i * 300000 ≤ 131072 * 300000 := Nat.mul_le_mul_right _ (by omega)
                omega
              have hsz : w.heap.size < wr.heap.size := HA.out.arr.lt
              have HEnd : Hid (∀ (o : Obj) (w2 : World) (g cap : Nat), w2.ownsRow w.heap.size 3 1 (.slice (some ⟨g, 0, none⟩) ((adj.getD j []).length + 1) cap) ((adj.getD j []).length + 1) (zv (adj.getD j []) ++ [.int .i64 (i : Int)]) → (wr.alloc o).grownBy w2 (Value.slice ra (adj.getD j []).length rc).ownBlock → ((Value.slice ra (adj.getD j []).length rc).ownBlock = some g ∨ g = wr.heap.size + 1) → Hid (AS w (w2.setCell ⟨w.heap.size, j, none⟩ (.slice (some ⟨g, 0, none⟩) ((adj.getD j []).length + 1) cap)) (rv.set j (.slice (some ⟨g, 0, none⟩) ((adj.getD j []).length + 1) cap)) (addE adj j (i : Int))) ∧ w2.cell? ⟨w.heap.size, j, none⟩ = some (.slice ra (adj.getD j []).length rc) ∧ w2.frozen? ⟨w.heap.size, j, none⟩ = false) := fun o w2 g cap h1 h2 h3 => HA.out.push (by omega) ER.out rfl h1 h2 h3
              have ejn : n0 + j - n0 = j := by omega
              have hji : ((n0 + j : Nat) : Int) - (n0 : Int) = (j : Int) := by omega
              have hji2 : (n0 : Int) + (j : Int) - (n0 : Int) = (j : Int) := by omega
              have hjn' : (j : Int) < (nj : Int) := by omega
              have j0 : (0 : Int) ≤ (j : Int) := by omega
              generalize hRL : (adj.getD j []).length = rl at *
              clear er hc1 hx HJ EX
              go_wp2_with (at_builtin; refine wpList_append_lies _ rfl _ _ 23 rfl w.heap.size 3 i3 (.int .i64 0) 1 8 Try.underlying23 hi3 hz30 hz31 hz32 rfl (by decide) _ rl _ rfl (HO.out.alloc _) ⟨wr.heap.size, 0, none⟩ 1 1 [.int .i64 (i : Int)] rfl rfl (cell_one_at rfl _ _) (by simp [Value.oneCell']) (by omega) (by unfold maxLen; omega) (by omega) (by simp; omega) (wr.heap.size + 1) (by simp) ?_; intro g1 cap1 w2 hown2 hgrow hat hlt1; have K := HEnd.out _ w2 g1 cap1 hown2 hgrow hat; have KA := K.1; have kc := K.2.1; have kf := K.2.2; clear K hown2 hgrow hat)
              go_roundw
              case rel => exact ⟨kk + 1, _, _, by omega, by omega, by go_num, KA, HJ2⟩
              case measure => simp [intOf]; omega
            · have hkl' : ¬ (kk : Int) < (l1 : Int) := by omega
              have HJ2 : Hid (Adj n0 S0 S nj (i + 1) 0 300000 adj) := adj_close HJ.out (by rw [HRow.out.1]; omega) (by omega)
              clear HJ
              go_wp2_with fail
              go_roundw
              case rel => exact ⟨i + 1, rv, adj, by omega, by omega, by go_num, HA, HJ2⟩
              case measure => simp [intOf]; omega
        · have hin' : ¬ (i : Int) < ((n0 + nj : Nat) : Int) := by omega
          have hin2 : ¬ (i : Int) < (n0 : Int) + (nj : Int) := by omega
          have HAd : Hid (Mat wr (some ⟨w.heap.size, 0, none⟩) nj adj ∧ AdjOk J adj) := by
            have h1 := HJ.out
            rw [show i = n0 + nj from by omega] at h1
            refine ⟨HA.out.mat h1.len (M := (n0 + nj) * 300000 + 0) h1.siz (by have : (n0 + nj) * 300000 ≤ 131072 * 300000 := Nat.mul_le_mul_right _ (by omega); omega), adj_end (S0 := S0) (S := S) (M := 300000) HC.out.gr ?_ ?_⟩
            · rw [hn0l, HC.out.jl]; exact h1
            · rw [hn0l]; exact HC.out.ok.jok
          have HC2 : Hid (Cx wr a sa na na' n0 nj nn size p vb sb v true W nd0 nd' S0 S J) := HC.out.keep HA.out.bel
          have HB2 : Hid (Below w0.heap.size w0 wr) := bel_next HB.out HA.out.bel
          clear HA HJ HC HB
          go_wp2_with fail
          refine HK1.out _ _ ?_
          exact t31 _ _ _ _ _ _ _ _ _ _ _ _ _ _ _ _ _ _ _ _ _ _ _ _ _ _ _ _ _ _ _ _ _ _ _ _ _ _ _ _ _ _ _ _ _ _ _ _ _ _ _ _ _ _ _ _ _ _ _ _ _ _ _ _ _ _ _ _ _ _ _ _ _ _ _ _ _ _ _ _ _ _ _ _ _ _ _ _ _ _ _ _ _ _ _ _ _ _ _ _ _ _ _ _ _ _ _ _ _ _ _ _ _ _ _ _ _ _ _ _ _ _ _ _ _ _ _ _ _ _ _ _ _ _ _ _ _ _ _ _ _ _ _ _ _ _ _ _ _ _ _ _ _ _ _ _ _ _ _ _ _ _ _ _ _ _ _ _ _ _ _ _ _ _ _ _ _ _ _ _ _ _ _ _ _ _ _ _ _ _ _ _ _ _ _ _ _ _ _ _ _ _ _ _ _ _ _ _ _ _ _ _ _ _ _ _ _ _ _ _ _ _ _ _ _ _ _ _ _ _ _ _ _ _ _ _ _ _ _ _ _ _ _ _ _ _ _ _ _ _ _ _ _ _ _ _ _ _ _ _ _ _ _ _ _ _ _ _ _ _ _ _ _ _ _ _ _ _ _ _ _ _ _ _ _ _ _ _ _ _ _ _ _ _ _ _ _ _ _ _ _ _ _ _ _ _ _ _ _ _ _ _ _ _ _ _ _ _ _ _ _ _ _ _ _ _ _ _ _ _ _ _ _ _ _ _ _ _ _ _ _ _ _ _ _ _ _ _ _ _ _ _ _ _ _ _ _ _ _ _ _ _ _ _ _ _ _ _ _ _ _ _ _ _ _ _ _ _ _ _ _ _ _ _ _ _ _ _ _ _ _ _ _ _ _ _ _ _ _ _ _ _ _ _ _ _ _ _ _ _ _ _ _ _ _ _ _ _ _ _ _ _ _ _ _ _ _ _ _ _ _ _ _ _ _ _ _ _ _ _ _ _ _ _ _ _ _ _ _ _ _ _ _ _ _ _ _ _ _ _ _ _ _ _ _ _ _ _ _ _ _ _ _ _ _ _ _ _ _ _ _ _ _ _ _ _ _ _ _ _ _ _ _ _ _ _ _ _ _ _ _ _ _ _ _ _ _ _ _ _ _ _ _ _ _ _ _ _ _ _ _ _ _ _ _ _ _ _ _ _ _ _ _ _ _ _ _ _ _ _ _ _ _ _ _ _ _ _ _ _ _ _ _ _ _ _ _ _ _ _ _ _ _ _ _ _ _ _ _ _ _ _ _ _ _ _ _ _ _ _ _ _ _ _ _ _ _ _ _ _ _ _ _ _ _ _ _ _ _ _ _ _ _ _ _ _ _ _ _ _ w0 wr a sa na na' n0 nj nn nc' size p vb sb w.heap.size v true W nd0 nd' S0 S adj J HC2 HAd HB2

end Go.Proofs.Qxb6601646a.Nw
