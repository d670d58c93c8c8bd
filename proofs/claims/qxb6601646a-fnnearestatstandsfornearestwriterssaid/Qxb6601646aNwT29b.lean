import Derived.Test.Qxb6601646aNwAdj
import Derived.Deep.CutRange
import Derived.Test.Qxb6601646aNwT31
namespace Go.Proofs.Qxb6601646a.Nw
set_option linter.unusedVariables false
open Go.RowKit Go.Proofs.Qxb6601646a.Tw Go.Proofs.Qxb6601646a.Np

/-- Backwards: the rows are laid as they are. -/
structure BS (w wr : World) (sa : Option Addr) (nj n0 k : Nat) : Prop where
  bel : Below w.heap.size w wr
  arr : ∃ rv, Arr wr w.heap.size 23 rv ∧ rv.length = nj ∧ ∀ j, j < k → ∃ b off, sa = some ⟨b, off, none⟩ ∧ w.cell? ⟨b, off + (n0 + j), none⟩ = rv[j]?
theorem bs_start {w w1 : World} {sa : Option Addr} {n n0 : Nat} (hown : w1.ownsRow w.heap.size 23 1 (.slice (some ⟨w.heap.size, 0, none⟩) n n) n (madeCells (Value.slice none 0 0).cells (n * 1)).toList) (hg : w.grownBy w1 none) : BS w w1 sa n n0 0 := by
  rw [made_nil] at hown
  exact ⟨(Below.refl _ _).grown hg (Nat.le_refl _) (fun k hk => by cases hk), _, arr_of_own hown, by simp, fun j hj => by omega⟩
theorem BS.cell {w wr : World} {sa : Option Addr} {nj n0 k j : Nat} (h : BS w wr sa nj n0 k) (hj : j < nj) : ∃ old, wr.cell? ⟨w.heap.size, j, none⟩ = some old ∧ wr.frozen? ⟨w.heap.size, j, none⟩ = false := by
  obtain ⟨rv, h1, h2, _⟩ := h.arr
  exact ⟨rv.getD j nilv, by rw [h1.cell j, getD_of (by omega) nilv], h1.free j⟩
theorem BS.lay {w wr : World} {sa : Option Addr} {nj n0 k b off : Nat} {val : Value} (h : BS w wr sa nj n0 k) (hk : k < nj) (hsa : sa = some ⟨b, off, none⟩) (hc : w.cell? ⟨b, off + (n0 + k), none⟩ = some val) : BS w (wr.setCell ⟨w.heap.size, k, none⟩ val) sa nj n0 (k + 1) := by
  obtain ⟨rv, h1, h2, h3⟩ := h.arr
  refine ⟨h.bel.setCell (Nat.le_refl _) _, rv.set k val, h1.set k val, by rw [List.length_set]; exact h2, fun j hj => ?_⟩
  by_cases e : j = k
  · subst e
    exact ⟨b, off, hsa, by rw [List.getElem?_set_self (by omega)]; exact hc⟩
  · rw [List.getElem?_set_ne (fun e2 => e e2.symm)]
    exact h3 j (by omega)
theorem BS.mat {w wr : World} {sa : Option Addr} {nj n0 : Nat} {S : List (List Int)} (h : BS w wr sa nj n0 nj) (hm : Mat w sa (n0 + nj) S) : Mat wr (some ⟨w.heap.size, 0, none⟩) nj ((List.range nj).map fun k => S.getD (n0 + k) []) := by
  obtain ⟨rv, h1, h2, h3⟩ := h.arr
  refine ⟨by simp, .inr ⟨w.heap.size, 0, rfl, h1.lt, fun j hj => ?_⟩⟩
  obtain ⟨b, off, e, hc⟩ := h3 j hj
  obtain ⟨b', off', e', _, a1, l1, c1, hc1, hl1, hr1⟩ := hm.at (n0 + j) (by omega)
  rw [e] at e'
  cases e'
  rw [Nat.zero_add, h1.cell j, ← hc, hc1]
  refine ⟨a1, l1, c1, rfl, hl1, ?_⟩
  rw [List.getD_eq_getElem?_getD, List.getElem?_map, List.getElem?_range hj]
  exact hr1.keep h.bel
set_option maxHeartbeats 4000000 in
set_option maxRecDepth 1000000 in
theorem t29b (u1 u2 u5 u6 u7 u8 u9 u10 u11 u12 u13 u14 u15 u16 u17 u18 u19 u20 u21 u22 u23 u25 u26 u27 u28 u29 u34 u36 u37 u38 u39 u40 u41 u42 u43 u44 u45 u46 u47 u48 u49 u50 u51 u52 u53 u54 u55 u56 u57 u58 u59 u60 u61 u62 u63 u64 u65 u66 u67 u68 u69 u70 u71 u72 u73 u74 u75 u76 u77 u78 u79 u80 u81 u82 u83 u84 u85 u86 u87 u88 u89 u90 u91 u92 u93 u94 u95 u96 u97 u98 u99 u100 u101 u102 u103 u104 u105 u106 u107 u108 u109 u110 u111 u112 u113 u114 u115 u116 u117 u118 u119 u120 u121 u122 u123 u124 u125 u126 u127 u128 u129 u130 u131 u132 u133 u134 u135 u136 u137 u138 u139 u140 u141 u142 u143 u144 u145 u146 u147 u148 u149 u150 u151 u152 u153 u154 u155 u156 u157 u158 u159 u160 u161 u162 u163 u164 u165 u166 u167 u168 u169 u170 u171 u172 u173 u174 u175 u176 u177 u178 u179 u180 u181 u182 u183 u184 u185 u186 u187 u188 u189 u190 u191 u192 u193 u194 u195 u196 u197 u198 u199 u200 u201 u202 u203 u204 u205 u206 u207 u208 u209 u210 u211 u212 u213 u214 u215 u216 u217 u218 u219 u220 u221 u222 u223 u224 u225 u226 u227 u228 u229 u230 u231 u232 u233 u234 u235 u236 u237 u238 u239 u240 u241 u242 u243 u244 u245 u246 u247 u248 u249 u250 u251 u252 u253 u254 u255 u256 u257 u258 u259 u260 u261 u262 u263 u264 u265 u266 u267 u268 u269 u270 u271 u272 u273 u274 u275 u276 u277 u278 u279 u280 u281 u282 u283 u284 u285 u286 u287 u288 u289 u290 u291 u292 u293 u294 u295 u296 u297 u298 u299 u300 u301 u302 u303 u304 u305 u306 u307 u308 u309 u310 u311 u312 u313 u314 u315 u316 u317 u318 u319 u320 u321 u322 u323 u324 u325 u326 u327 u328 u329 u330 u331 u332 u333 u334 u335 u336 u337 u338 u339 u340 u341 u342 u343 u344 u345 u346 u347 u348 u349 u350 u351 u352 u353 u354 u355 u356 u357 u358 u359 u360 u361 u362 u363 u364 u365 u366 u367 u368 u369 u370 u371 u372 u373 u374 u375 u376 u377 u378 u379 u380 u381 u382 u383 u384 u385 u386 u387 u388 u389 u390 u391 u392 u393 u394 u395 u396 u397 u398 u399 u400 u401 u402 u403 u404 u405 u406 u407 u408 u409 u410 u411 u412 u413 u414 u415 u416 u417 u418 u419 u420 u421 u422 u423 u424 u425 u426 u427 u428 u429 u430 u431 u432 u433 u434 u435 u436 u437 u438 u439 u440 u441 u442 u443 u444 u445 u446 u447 u448 u449 u450 u451 u452 u453 u454 u455 u456 u457 u458 u459 u460 u461 u462 u463 u464 u465 u466 u467 u468 u469 u470 u471 u472 u473 u474 u475 u476 u477 u478 u479 u480 u481 u482 u483 u484 u485 u486 u487 u488 u489 u490 u491 u492 u493 u494 u495 u496 u497 u498 u499 u500 u501 u502 u503 u504 u505 u506 u507 u508 u509 u510 u511 u512 u513 u514 u515 u516 u517 u518 u519 u520 u521 u522 u523 u524 u525 u526 u527 u528 u529 u530 u531 u532 u533 u534 u535 u536 u537 u538 u539 u540 u541 u542 u543 u544 u545 u546 u547 u548 u549 u550 u551 u552 u553 u554 u555 u556 u557 u558 u559 u560 u561 u562 u563 u564 u565 u566 u567 u568 u569 u570 u571 u572 u573 u574 u575 u576 u577 u578 u579 u580 u581 u582 u583 u584 u585 u586 u587 u588 u589 u590 u591 u592 u593 u594 u595 u596 u597 u598 u599 u600 u601 u602 u603 u604 u605 u606 u607 u608 u609 u610 u611 u612 u613 u614 u615 : Value)
    (w0 w : World) (a sa na na' : Option Addr) (n0 c nj sc nn nc' size p vb sb : Nat) (v : Int) (W nd0 nd' : List Int) (S0 S : List (List Int)) (J : List (Nat × Nat)) (HC : Hid (Cx w a sa na na' n0 nj nn size p vb sb v false W nd0 nd' S0 S J)) (HB : Hid (Below w0.heap.size w0 w)) :
    Code.wp Try.prog (sndN 29 (Try.f3.body.getD .skip)) (bodyPost Try.prog Try.f3 fun e w' => e = .returned (.bool true) ∧ Below w0.heap.size w0 w') ⟨#[(.slice a n0 c), u1, u2, (.bool false), (.int .i64 (size : Int)), u5, u6, u7, u8, u9, u10, u11, u12, u13, u14, u15, u16, u17, u18, u19, u20, u21, u22, u23, (.int .i64 (n0 : Int)), u25, u26, u27, u28, u29, (.slice sa (n0 + nj) sc), (.slice na' nn nc'), (.slice (some ⟨vb, 0, none⟩) size size), (.slice (some ⟨sb, 0, none⟩) size size), u34, (.int .i64 (nj : Int)), u36, u37, u38, u39, u40, u41, u42, u43, u44, u45, u46, u47, u48, u49, u50, u51, u52, u53, u54, u55, u56, u57, u58, u59, u60, u61, u62, u63, u64, u65, u66, u67, u68, u69, u70, u71, u72, u73, u74, u75, u76, u77, u78, u79, u80, u81, u82, u83, u84, u85, u86, u87, u88, u89, u90, u91, u92, u93, u94, u95, u96, u97, u98, u99, u100, u101, u102, u103, u104, u105, u106, u107, u108, u109, u110, u111, u112, u113, u114, u115, u116, u117, u118, u119, u120, u121, u122, u123, u124, u125, u126, u127, u128, u129, u130, u131, u132, u133, u134, u135, u136, u137, u138, u139, u140, u141, u142, u143, u144, u145, u146, u147, u148, u149, u150, u151, u152, u153, u154, u155, u156, u157, u158, u159, u160, u161, u162, u163, u164, u165, u166, u167, u168, u169, u170, u171, u172, u173, u174, u175, u176, u177, u178, u179, u180, u181, u182, u183, u184, u185, u186, u187, u188, u189, u190, u191, u192, u193, u194, u195, u196, u197, u198, u199, u200, u201, u202, u203, u204, u205, u206, u207, u208, u209, u210, u211, u212, u213, u214, u215, u216, u217, u218, u219, u220, u221, u222, u223, u224, u225, u226, u227, u228, u229, u230, u231, u232, u233, u234, u235, u236, u237, u238, u239, u240, u241, u242, u243, u244, u245, u246, u247, u248, u249, u250, u251, u252, u253, u254, u255, u256, u257, u258, u259, u260, u261, u262, u263, u264, u265, u266, u267, u268, u269, u270, u271, u272, u273, u274, u275, u276, u277, u278, u279, u280, u281, u282, u283, u284, u285, u286, u287, u288, u289, u290, u291, u292, u293, u294, u295, u296, u297, u298, u299, u300, u301, u302, u303, u304, u305, u306, u307, u308, u309, u310, u311, u312, u313, u314, u315, u316, u317, u318, u319, u320, u321, u322, u323, u324, u325, u326, u327, u328, u329, u330, u331, u332, u333, u334, u335, u336, u337, u338, u339, u340, u341, u342, u343, u344, u345, u346, u347, u348, u349, u350, u351, u352, u353, u354, u355, u356, u357, u358, u359, u360, u361, u362, u363, u364, u365, u366, u367, u368, u369, u370, u371, u372, u373, u374, u375, u376, u377, u378, u379, u380, u381, u382, u383, u384, u385, u386, u387, u388, u389, u390, u391, u392, u393, u394, u395, u396, u397, u398, u399, u400, u401, u402, u403, u404, u405, u406, u407, u408, u409, u410, u411, u412, u413, u414, u415, u416, u417, u418, u419, u420, u421, u422, u423, u424, u425, u426, u427, u428, u429, u430, u431, u432, u433, u434, u435, u436, u437, u438, u439, u440, u441, u442, u443, u444, u445, u446, u447, u448, u449, u450, u451, u452, u453, u454, u455, u456, u457, u458, u459, u460, u461, u462, u463, u464, u465, u466, u467, u468, u469, u470, u471, u472, u473, u474, u475, u476, u477, u478, u479, u480, u481, u482, u483, u484, u485, u486, u487, u488, u489, u490, u491, u492, u493, u494, u495, u496, u497, u498, u499, u500, u501, u502, u503, u504, u505, u506, u507, u508, u509, u510, u511, u512, u513, u514, u515, u516, u517, u518, u519, u520, u521, u522, u523, u524, u525, u526, u527, u528, u529, u530, u531, u532, u533, u534, u535, u536, u537, u538, u539, u540, u541, u542, u543, u544, u545, u546, u547, u548, u549, u550, u551, u552, u553, u554, u555, u556, u557, u558, u559, u560, u561, u562, u563, u564, u565, u566, u567, u568, u569, u570, u571, u572, u573, u574, u575, u576, u577, u578, u579, u580, u581, u582, u583, u584, u585, u586, u587, u588, u589, u590, u591, u592, u593, u594, u595, u596, u597, u598, u599, u600, u601, u602, u603, u604, u605, u606, u607, u608, u609, u610, u611, u612, u613, u614, u615], []⟩ w := by
  conv => arg 2; whnf
  obtain ⟨i23, hi23, hy0, hy1, hy2⟩ := info_parts info23
  have hb0 := HC.out.b0
  have hb1 := HC.out.b1
  have hb3 := HC.out.b3
  have hn0l : S0.length = n0 := HC.out.m0.1
  refine wp_seq_k fun K0 hK0 => ?_
  have HK0 := hide hK0
  clear hK0
  go_wp2_with (at_make; refine wpList_make_full _ rfl _ _ 22 rfl w.heap.size 23 i23 (.slice none 0 0) 1 Try.underlying22 hi23 hy0 hy1 _ _ _ _ nj rfl rfl rfl rfl (by rw [hy2]; omega) (by unfold maxLen; omega) (by omega) ?_; intro w1 hown1 hgrow1; have HA : Hid (BS w w1 sa nj n0 0) := bs_start hown1 hgrow1; clear hown1 hgrow1)
  refine HK0.out _ _ ?_
  clear HK0
  refine wp_seq_k fun K1 hK1 => ?_
  have HK1 := hide hK1
  clear hK1
  go_wp2_with fail
  go_loopw [52] (fun iv wr => ∃ k : Nat, k ≤ nj ∧ iv = .int .i64 ((n0 + k : Nat) : Int) ∧ Hid (BS w wr sa nj n0 k)) (fun iv _ => n0 + nj - (intOf iv).toNat)
  case atStart => exact ⟨0, Nat.zero_le _, rfl, HA⟩
  case round =>
    clear HA
    obtain ⟨k, hk, rfl, HA⟩ := hrel
    by_cases hin : k < nj
    · have hin' : ((n0 + k : Nat) : Int) < ((n0 + nj : Nat) : Int) := by omega
      have hin2 : (n0 : Int) + (k : Int) < (n0 : Int) + (nj : Int) := by omega
      obtain ⟨sab, soff, hsa, hsab, a1, l1, c1, hcr, _, hrow⟩ := HC.out.m1.at (n0 + k) (by omega)
      subst hsa
      have crow := (HA.out.bel.cell (p := ⟨sab, soff + (n0 + k), none⟩) hsab).trans hcr
      obtain ⟨old, cold, fold⟩ := HA.out.cell hin
      have HA2 : Hid (BS w (wr.setCell ⟨w.heap.size, k, none⟩ (.slice a1 l1 c1)) (some ⟨sab, soff, none⟩) nj n0 (k + 1)) := HA.out.lay hin rfl hcr
      have ejn : n0 + k - n0 = k := by omega
      have hji : ((n0 + k : Nat) : Int) - (n0 : Int) = (k : Int) := by omega
      have hji2 : (n0 : Int) + (k : Int) - (n0 : Int) = (k : Int) := by omega
      have hkn' : (k : Int) < (nj : Int) := by omega
      have k0 : (0 : Int) ≤ (k : Int) := by omega
      clear hcr hrow HA
      go_wp2_with fail
      go_roundw
      case rel => exact ⟨k + 1, by omega, by go_num, HA2⟩
      case measure => simp [intOf]; omega
    · have hin' : ¬ ((n0 + k : Nat) : Int) < ((n0 + nj : Nat) : Int) := by omega
      have hin2 : ¬ (n0 : Int) + (k : Int) < (n0 : Int) + (nj : Int) := by omega
      have HAd : Hid (Mat wr (some ⟨w.heap.size, 0, none⟩) nj ((List.range nj).map fun k => S.getD (n0 + k) []) ∧ AdjOk J ((List.range nj).map fun k => S.getD (n0 + k) [])) := by
        have h1 := HA.out
        rw [show k = nj from by omega] at h1
        refine ⟨h1.mat HC.out.m1, adj_back HC.out.gr (by rw [List.length_map, List.length_range, HC.out.jl]) (fun k hk => ?_)⟩
        rw [hn0l, List.getD_eq_getElem?_getD, List.getElem?_map, List.getElem?_range (by rw [← HC.out.jl]; exact hk)]; rfl
      have HC2 : Hid (Cx wr a sa na na' n0 nj nn size p vb sb v false W nd0 nd' S0 S J) := HC.out.keep HA.out.bel
      have HB2 : Hid (Below w0.heap.size w0 wr) := bel_next HB.out HA.out.bel
      clear HA HC HB
      go_wp2_with fail
      refine HK1.out _ _ ?_
      exact t31 _ _ _ _ _ _ _ _ _ _ _ _ _ _ _ _ _ _ _ _ _ _ _ _ _ _ _ _ _ _ _ _ _ _ _ _ _ _ _ _ _ _ _ _ _ _ _ _ _ _ _ _ _ _ _ _ _ _ _ _ _ _ _ _ _ _ _ _ _ _ _ _ _ _ _ _ _ _ _ _ _ _ _ _ _ _ _ _ _ _ _ _ _ _ _ _ _ _ _ _ _ _ _ _ _ _ _ _ _ _ _ _ _ _ _ _ _ _ _ _ _ _ _ _ _ _ _ _ _ _ _ _ _ _ _ _ _ _ _ _ _ _ _ _ _ _ _ _ _ _ _ _ _ _ _ _ _ _ _ _ _ _ _ _ _ _ _ _ _ _ _ _ _ _ _ _ _ _ _ _ _ _ _ _ _ _ _ _ _ _ _ _ _ _ _ _ _ _ _ _ _ _ _ _ _ _ _ _ _ _ _ _ _ _ _ _ _ _ _ _ _ _ _ _ _ _ _ _ _ _ _ _ _ _ _ _ _ _ _ _ _ _ _ _ _ _ _ _ _ _ _ _ _ _ _ _ _ _ _ _ _ _ _ _ _ _ _ _ _ _ _ _ _ _ _ _ _ _ _ _ _ _ _ _ _ _ _ _ _ _ _ _ _ _ _ _ _ _ _ _ _ _ _ _ _ _ _ _ _ _ _ _ _ _ _ _ _ _ _ _ _ _ _ _ _ _ _ _ _ _ _ _ _ _ _ _ _ _ _ _ _ _ _ _ _ _ _ _ _ _ _ _ _ _ _ _ _ _ _ _ _ _ _ _ _ _ _ _ _ _ _ _ _ _ _ _ _ _ _ _ _ _ _ _ _ _ _ _ _ _ _ _ _ _ _ _ _ _ _ _ _ _ _ _ _ _ _ _ _ _ _ _ _ _ _ _ _ _ _ _ _ _ _ _ _ _ _ _ _ _ _ _ _ _ _ _ _ _ _ _ _ _ _ _ _ _ _ _ _ _ _ _ _ _ _ _ _ _ _ _ _ _ _ _ _ _ _ _ _ _ _ _ _ _ _ _ _ _ _ _ _ _ _ _ _ _ _ _ _ _ _ _ _ _ _ _ _ _ _ _ _ _ _ _ _ _ _ _ _ _ _ _ _ _ _ _ _ _ _ _ _ _ _ _ _ _ _ _ _ _ _ _ _ _ _ _ _ _ _ _ _ _ _ _ _ _ _ _ _ _ _ _ _ _ _ _ _ _ _ _ _ _ _ _ _ _ _ _ _ _ _ _ _ _ _ _ _ _ _ _ _ _ _ _ _ _ _ _ _ _ _ _ _ _ _ _ _ _ _ _ _ _ _ _ _ _ _ _ _ _ w0 wr a sa na na' n0 nj nn nc' size p vb sb w.heap.size v false W nd0 nd' S0 S _ J HC2 HAd HB2

end Go.Proofs.Qxb6601646a.Nw
