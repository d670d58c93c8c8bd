import Derived.Test.Qxb6601646aNwAdj
import Derived.Deep.CutRange
import Derived.Test.Qxb6601646aNwT26
namespace Go.Proofs.Qxb6601646a.Nw
set_option linter.unusedVariables false
open Go.RowKit Go.Proofs.Qxb6601646a.Tw Go.Proofs.Qxb6601646a.Np

/-- The owners while they are counted. -/
structure OS (w wr : World) (ow : List Nat) : Prop where
  bel : Below w.heap.size w wr
  arr : Arr wr w.heap.size 3 (iv ow)
/-- Every junction kept below q is counted. -/
structure OI (n0 nj size p : Nat) (nd0 nd' : List Int) (q : Nat) (ow : List Nat) : Prop where
  len : ow.length = nj
  top : ∀ j, ow.getD j 0 ≤ q
  pos : ∀ q' j : Nat, q' < q → Vis size nd0 p q' → nd'[q']? = some ((n0 + j : Nat) : Int) → j < nj → 0 < ow.getD j 0
theorem oi_start (n0 nj size p : Nat) (nd0 nd' : List Int) : OI n0 nj size p nd0 nd' 0 (List.replicate nj 0) := by
  refine ⟨by simp, fun j => ?_, fun q' j h => by omega⟩
  rw [List.getD_eq_getElem?_getD, List.getElem?_replicate]
  split <;> simp
theorem OI.skip {n0 nj size p q : Nat} {nd0 nd' : List Int} {ow : List Nat} (h : OI n0 nj size p nd0 nd' q ow) (hn : ∀ j : Nat, Vis size nd0 p q → nd'[q]? = some ((n0 + j : Nat) : Int) → j < nj → False) : OI n0 nj size p nd0 nd' (q + 1) ow := by
  refine ⟨h.len, fun j => Nat.le_succ_of_le (h.top j), fun q' j hq hv hx hj => ?_⟩
  by_cases e : q' = q
  · subst e; exact (hn j hv hx hj).elim
  · exact h.pos q' j (by omega) hv hx hj
theorem ow_set (ow : List Nat) (k x : Nat) (hk : k < ow.length) (j : Nat) : (ow.set k x).getD j 0 = if j = k then x else ow.getD j 0 := by
  rw [List.getD_eq_getElem?_getD, List.getElem?_set]
  by_cases h : k = j
  · subst h; rw [if_pos rfl, if_pos hk, if_pos rfl]; rfl
  · rw [if_neg h, if_neg (fun e => h e.symm), ← List.getD_eq_getElem?_getD]
theorem OI.bump {n0 nj size p q k : Nat} {nd0 nd' : List Int} {ow : List Nat} (h : OI n0 nj size p nd0 nd' q ow) (hk : k < nj) (hx : nd'.getD q 0 = ((n0 + k : Nat) : Int)) : OI n0 nj size p nd0 nd' (q + 1) (ow.set k (ow.getD k 0 + 1)) := by
  have hl := h.len
  refine ⟨by rw [List.length_set]; exact hl, fun j => ?_, fun q' j hq hv hx' hj => ?_⟩
  · rw [ow_set _ _ _ (by omega)]
    have h1 := h.top j
    have h2 := h.top k
    split <;> omega
  · rw [ow_set _ _ _ (by omega)]
    by_cases e : q' = q
    · subst e
      have : j = k := by
        rw [List.getD_eq_getElem?_getD, hx'] at hx
        have hx2 : ((n0 + j : Nat) : Int) = ((n0 + k : Nat) : Int) := hx
        omega
      rw [if_pos this]; omega
    · have := h.pos q' j (by omega) hv hx' hj
      split <;> omega
theorem Cx.less {w : World} {a sa na na' : Option Addr} {n0 nj nn size p vb sb : Nat} {v : Int} {fw : Bool} {W nd0 nd' : List Int} {S0 S : List (List Int)} {J : List (Nat × Nat)} (h : Cx w a sa na na' n0 nj nn size p vb sb v fw W nd0 nd' S0 S J) {q : Nat} {s : List Nat} (hs : SetOf (In size W nd0 q) s) (h2 : ¬ 2 ≤ s.length) : ∀ j : Nat, Vis size nd0 p q → nd'[q]? = some ((n0 + j : Nat) : Int) → j < nj → False := by
  intro j hq hx _
  obtain ⟨x, hx1, hx2⟩ := h.ok.ins q hq
  rw [hx] at hx1
  injection hx1 with hx1
  subst hx1
  exact h2 (stands_new hx2 hs)
theorem Cx.same {w : World} {a sa na na' : Option Addr} {n0 nj nn size p vb sb : Nat} {v : Int} {fw : Bool} {W nd0 nd' : List Int} {S0 S : List (List Int)} {J : List (Nat × Nat)} (h : Cx w a sa na na' n0 nj nn size p vb sb v fw W nd0 nd' S0 S J) {q : Nat} (hq : ¬ Vis size nd0 p q) : nd'.getD q 0 = nd0.getD q 0 := by
  rw [List.getD_eq_getElem?_getD, List.getD_eq_getElem?_getD, h.ok.out q hq]
theorem OI.done {w : World} {a sa na na' : Option Addr} {n0 nj nn size p vb sb : Nat} {v : Int} {fw : Bool} {W nd0 nd' : List Int} {S0 S : List (List Int)} {J : List (Nat × Nat)} {ow : List Nat} (h : Cx w a sa na na' n0 nj nn size p vb sb v fw W nd0 nd' S0 S J) (ho : OI n0 nj size p nd0 nd' nn ow) : ∀ j, j < nj → ow.getD j 0 ≠ 0 := by
  intro j hj
  obtain ⟨q, hq1, hq2⟩ := h.ok.own j (Nat.zero_le _) (by rw [h.jl]; exact hj)
  have := ho.pos q j (by have := hq1.lt.1; have := h.size_le; omega) hq1 hq2 hj
  omega
theorem row_iv {w : World} {g : Nat} {l : List Nat} {n : Nat} (h : Arr w g 3 (iv l)) (hl : l.length = n) : Row w (some ⟨g, 0, none⟩) n (ints l) := by
  refine ⟨by rw [ints_length]; exact hl, .inr ⟨g, 0, rfl, h.lt, fun j hj => ?_⟩⟩
  rw [Nat.zero_add, h.cell j, iv_at l j (by omega), ints_getD]
set_option maxHeartbeats 8000000 in
set_option maxRecDepth 1000000 in
theorem t24 (u1 u2 u5 u7 u9 u10 u11 u12 u13 u14 u15 u16 u17 u18 u19 u20 u21 u22 u23 u25 u26 u27 u28 u36 u37 u38 u39 u40 u41 u42 u43 u44 u45 u46 u47 u48 u49 u50 u51 u52 u53 u54 u55 u56 u57 u58 u59 u60 u61 u62 u63 u64 u65 u66 u67 u68 u69 u70 u71 u72 u73 u74 u75 u76 u77 u78 u79 u80 u81 u82 u83 u84 u85 u86 u87 u88 u89 u90 u91 u92 u93 u94 u95 u96 u97 u98 u99 u100 u101 u102 u103 u104 u105 u106 u107 u108 u109 u110 u111 u112 u113 u114 u115 u116 u117 u118 u119 u120 u121 u122 u123 u124 u125 u126 u127 u128 u129 u130 u131 u132 u133 u134 u135 u136 u137 u138 u139 u140 u141 u142 u143 u144 u145 u146 u147 u148 u149 u150 u151 u152 u153 u154 u155 u156 u157 u158 u159 u160 u161 u162 u163 u164 u165 u166 u167 u168 u169 u170 u171 u172 u173 u174 u175 u176 u177 u178 u179 u180 u181 u182 u183 u184 u185 u186 u187 u188 u189 u190 u191 u192 u193 u194 u195 u196 u197 u198 u199 u200 u201 u202 u203 u204 u205 u206 u207 u208 u209 u210 u211 u212 u213 u214 u215 u216 u217 u218 u219 u220 u221 u222 u223 u224 u225 u226 u227 u228 u229 u230 u231 u232 u233 u234 u235 u236 u237 u238 u239 u240 u241 u242 u243 u244 u245 u246 u247 u248 u249 u250 u251 u252 u253 u254 u255 u256 u257 u258 u259 u260 u261 u262 u263 u264 u265 u266 u267 u268 u269 u270 u271 u272 u273 u274 u275 u276 u277 u278 u279 u280 u281 u282 u283 u284 u285 u286 u287 u288 u289 u290 u291 u292 u293 u294 u295 u296 u297 u298 u299 u300 u301 u302 u303 u304 u305 u306 u307 u308 u309 u310 u311 u312 u313 u314 u315 u316 u317 u318 u319 u320 u321 u322 u323 u324 u325 u326 u327 u328 u329 u330 u331 u332 u333 u334 u335 u336 u337 u338 u339 u340 u341 u342 u343 u344 u345 u346 u347 u348 u349 u350 u351 u352 u353 u354 u355 u356 u357 u358 u359 u360 u361 u362 u363 u364 u365 u366 u367 u368 u369 u370 u371 u372 u373 u374 u375 u376 u377 u378 u379 u380 u381 u382 u383 u384 u385 u386 u387 u388 u389 u390 u391 u392 u393 u394 u395 u396 u397 u398 u399 u400 u401 u402 u403 u404 u405 u406 u407 u408 u409 u410 u411 u412 u413 u414 u415 u416 u417 u418 u419 u420 u421 u422 u423 u424 u425 u426 u427 u428 u429 u430 u431 u432 u433 u434 u435 u436 u437 u438 u439 u440 u441 u442 u443 u444 u445 u446 u447 u448 u449 u450 u451 u452 u453 u454 u455 u456 u457 u458 u459 u460 u461 u462 u463 u464 u465 u466 u467 u468 u469 u470 u471 u472 u473 u474 u475 u476 u477 u478 u479 u480 u481 u482 u483 u484 u485 u486 u487 u488 u489 u490 u491 u492 u493 u494 u495 u496 u497 u498 u499 u500 u501 u502 u503 u504 u505 u506 u507 u508 u509 u510 u511 u512 u513 u514 u515 u516 u517 u518 u519 u520 u521 u522 u523 u524 u525 u526 u527 u528 u529 u530 u531 u532 u533 u534 u535 u536 u537 u538 u539 u540 u541 u542 u543 u544 u545 u546 u547 u548 u549 u550 u551 u552 u553 u554 u555 u556 u557 u558 u559 u560 u561 u562 u563 u564 u565 u566 u567 u568 u569 u570 u571 u572 u573 u574 u575 u576 u577 u578 u579 u580 u581 u582 u583 u584 u585 u586 u587 u588 u589 u590 u591 u592 u593 u594 u595 u596 u597 u598 u599 u600 u601 u602 u603 u604 u605 u606 u607 u608 u609 u610 u611 u612 u613 u614 u615 : Value)
    (w0 w : World) (a sa na na' wa1 : Option Addr) (n0 c nj sc nn nc' size p vb sb wn1 wc1 : Nat) (v : Int) (fw : Bool) (W nd0 nd' : List Int) (S0 S : List (List Int)) (J : List (Nat × Nat)) (sw : List Nat) (nc : Nat) (HC : Hid (Cx w a sa na na' n0 nj nn size p vb sb v fw W nd0 nd' S0 S J)) (HB : Hid (Below w0.heap.size w0 w)) (HW : Hid (Row w wa1 wn1 (ints sw) ∧ SetOf (In size W nd0 p) sw)) (hw1 : wn1 ≤ 65536) (hp63 : p ≤ 9223372036854775807) :
    Code.wp Try.prog (sndN 24 (Try.f3.body.getD .skip)) (bodyPost Try.prog Try.f3 fun e w' => e = .returned (.bool true) ∧ Below w0.heap.size w0 w') ⟨#[(.slice a n0 c), u1, u2, (.bool fw), (.int .i64 (size : Int)), u5, (.slice na nn nc), u7, (.int .i64 (p : Int)), u9, u10, u11, u12, u13, u14, u15, u16, u17, u18, u19, u20, u21, u22, u23, (.int .i64 (n0 : Int)), u25, u26, u27, u28, (.int .i64 v), (.slice sa (n0 + nj) sc), (.slice na' nn nc'), (.slice (some ⟨vb, 0, none⟩) size size), (.slice (some ⟨sb, 0, none⟩) size size), (.slice wa1 wn1 wc1), (.int .i64 (nj : Int)), u36, u37, u38, u39, u40, u41, u42, u43, u44, u45, u46, u47, u48, u49, u50, u51, u52, u53, u54, u55, u56, u57, u58, u59, u60, u61, u62, u63, u64, u65, u66, u67, u68, u69, u70, u71, u72, u73, u74, u75, u76, u77, u78, u79, u80, u81, u82, u83, u84, u85, u86, u87, u88, u89, u90, u91, u92, u93, u94, u95, u96, u97, u98, u99, u100, u101, u102, u103, u104, u105, u106, u107, u108, u109, u110, u111, u112, u113, u114, u115, u116, u117, u118, u119, u120, u121, u122, u123, u124, u125, u126, u127, u128, u129, u130, u131, u132, u133, u134, u135, u136, u137, u138, u139, u140, u141, u142, u143, u144, u145, u146, u147, u148, u149, u150, u151, u152, u153, u154, u155, u156, u157, u158, u159, u160, u161, u162, u163, u164, u165, u166, u167, u168, u169, u170, u171, u172, u173, u174, u175, u176, u177, u178, u179, u180, u181, u182, u183, u184, u185, u186, u187, u188, u189, u190, u191, u192, u193, u194, u195, u196, u197, u198, u199, u200, u201, u202, u203, u204, u205, u206, u207, u208, u209, u210, u211, u212, u213, u214, u215, u216, u217, u218, u219, u220, u221, u222, u223, u224, u225, u226, u227, u228, u229, u230, u231, u232, u233, u234, u235, u236, u237, u238, u239, u240, u241, u242, u243, u244, u245, u246, u247, u248, u249, u250, u251, u252, u253, u254, u255, u256, u257, u258, u259, u260, u261, u262, u263, u264, u265, u266, u267, u268, u269, u270, u271, u272, u273, u274, u275, u276, u277, u278, u279, u280, u281, u282, u283, u284, u285, u286, u287, u288, u289, u290, u291, u292, u293, u294, u295, u296, u297, u298, u299, u300, u301, u302, u303, u304, u305, u306, u307, u308, u309, u310, u311, u312, u313, u314, u315, u316, u317, u318, u319, u320, u321, u322, u323, u324, u325, u326, u327, u328, u329, u330, u331, u332, u333, u334, u335, u336, u337, u338, u339, u340, u341, u342, u343, u344, u345, u346, u347, u348, u349, u350, u351, u352, u353, u354, u355, u356, u357, u358, u359, u360, u361, u362, u363, u364, u365, u366, u367, u368, u369, u370, u371, u372, u373, u374, u375, u376, u377, u378, u379, u380, u381, u382, u383, u384, u385, u386, u387, u388, u389, u390, u391, u392, u393, u394, u395, u396, u397, u398, u399, u400, u401, u402, u403, u404, u405, u406, u407, u408, u409, u410, u411, u412, u413, u414, u415, u416, u417, u418, u419, u420, u421, u422, u423, u424, u425, u426, u427, u428, u429, u430, u431, u432, u433, u434, u435, u436, u437, u438, u439, u440, u441, u442, u443, u444, u445, u446, u447, u448, u449, u450, u451, u452, u453, u454, u455, u456, u457, u458, u459, u460, u461, u462, u463, u464, u465, u466, u467, u468, u469, u470, u471, u472, u473, u474, u475, u476, u477, u478, u479, u480, u481, u482, u483, u484, u485, u486, u487, u488, u489, u490, u491, u492, u493, u494, u495, u496, u497, u498, u499, u500, u501, u502, u503, u504, u505, u506, u507, u508, u509, u510, u511, u512, u513, u514, u515, u516, u517, u518, u519, u520, u521, u522, u523, u524, u525, u526, u527, u528, u529, u530, u531, u532, u533, u534, u535, u536, u537, u538, u539, u540, u541, u542, u543, u544, u545, u546, u547, u548, u549, u550, u551, u552, u553, u554, u555, u556, u557, u558, u559, u560, u561, u562, u563, u564, u565, u566, u567, u568, u569, u570, u571, u572, u573, u574, u575, u576, u577, u578, u579, u580, u581, u582, u583, u584, u585, u586, u587, u588, u589, u590, u591, u592, u593, u594, u595, u596, u597, u598, u599, u600, u601, u602, u603, u604, u605, u606, u607, u608, u609, u610, u611, u612, u613, u614, u615], []⟩ w := by
  conv => arg 2; whnf
  obtain ⟨i3, hi3, hz30, hz31, hz32⟩ := info_parts info3
  have hb0 := HC.out.b0
  have hb1 := HC.out.b1
  have hb2 := HC.out.b2
  have hb3 := HC.out.b3
  have hsn := HC.out.size_le
  refine wp_seq_k fun K0 hK0 => ?_
  have HK0 := hide hK0
  clear hK0
  go_wp2_with (at_make; refine wpList_make_full _ rfl _ _ 23 rfl w.heap.size 3 i3 (.int .i64 0) 1 Try.underlying23 hi3 hz30 hz31 _ _ _ _ nj rfl rfl rfl rfl (by rw [hz32]; omega) (by unfold maxLen; omega) (by omega) ?_; intro w1 hown1 hgrow1; have HO : Hid (OS w w1 (List.replicate nj 0)) := ⟨(Below.refl _ _).grown hgrow1 (Nat.le_refl _) (fun k hk => by cases hk), arr_made_i hown1⟩; clear hown1 hgrow1)
  refine HK0.out _ _ ?_
  clear HK0
  refine wp_seq_k fun K1 hK1 => ?_
  have HK1 := hide hK1
  clear hK1
  go_wp2_with fail
  have HI : Hid (OI n0 nj size p nd0 nd' 0 (List.replicate nj 0)) := oi_start n0 nj size p nd0 nd'
  go_loopw [43] (fun qv wr => ∃ (q : Nat) (ow : List Nat), q ≤ nn ∧ qv = .int .i64 (q : Int) ∧ Hid (OS w wr ow) ∧ Hid (OI n0 nj size p nd0 nd' q ow)) (fun qv _ => nn - (intOf qv).toNat)
  case atStart => exact ⟨0, _, Nat.zero_le _, rfl, HO, HI⟩
  case round =>
    clear HO HI
    obtain ⟨q, ow, hq, rfl, HO, HI⟩ := hrel
    by_cases hqn : q < nn
    · have hqn' : (q : Int) < (nn : Int) := by omega
      have q0 : (0 : Int) ≤ (q : Int) := by omega
      obtain ⟨nb', noff, rfl, hnb, hcn⟩ := HC.out.r1.at q hqn
      have cn := (HO.out.bel.cell (p := ⟨nb', noff + q, none⟩) hnb).trans hcn
      obtain ⟨nb0, noff0, rfl, hnb0, hcn0⟩ := HC.out.r0.at q hqn
      have cn0 := (HO.out.bel.cell (p := ⟨nb0, noff0 + q, none⟩) hnb0).trans hcn0
      clear hcn hcn0
      by_cases hqs : q < size
      · have hqs' : (q : Int) < (size : Int) := by omega
        obtain ⟨B, hcv, hB⟩ := HC.out.hv q hqs
        have cv := (HO.out.bel.cell (p := ⟨vb, q, none⟩) HC.out.lv).trans hcv
        have HBv : Hid (B = true ↔ Vis size nd0 p q) := hB
        clear hB hcv
        cases B with
        | true =>
          have HV : Hid (Vis size nd0 p q) := HBv.out.1 rfl
          obtain ⟨sa1, sn, sc1, s, hcs, hsn1, hrow, hset⟩ := HC.out.hs q HV.out
          have cs := (HO.out.bel.cell (p := ⟨sb, q, none⟩) HC.out.lsb).trans hcs
          have HS : Hid (Row w sa1 sn (ints s) ∧ SetOf (In size W nd0 q) s) := ⟨hrow, hset⟩
          have H14 : Hid (∀ m, Calls Try.prog 14 #[.int .i64 (nd'.getD q 0), .slice sa1 sn sc1, .int .i64 (n0 : Int), .int .i64 ((n0 : Int) + (nj : Int))] (wr.drewN m) fun e w' => e = .returned (.bool true) ∧ w' = wr.drewN m) := fun m => by
            have h := stands_any (nd'.getD q 0) sa1 sn sc1 n0 (n0 + nj) s (wr.drewN m) (hrow.keep (bel_next HO.out.bel (below_drewN (Below.refl _ _) m))) (by omega)
            obtain ⟨x, hx1, hx2⟩ := HC.out.ok.ins q HV.out
            have ex : nd'.getD q 0 = x := by rw [List.getD_eq_getElem?_getD, hx1]; rfl
            rw [ex] at h ⊢
            rw [← HC.out.jl, stands_for hx2 hset, HC.out.jl, show ((n0 + nj : Nat) : Int) = (n0 : Int) + (nj : Int) from by omega] at h
            exact h
          clear hcs hrow hset
          by_cases h2 : 2 ≤ sn
          · have h2' : (2 : Int) ≤ (sn : Int) := by omega
            obtain ⟨k, hk1, hk2, _⟩ := HC.out.two HV.out HS.out.2 (by rw [row_len HS.out.1]; exact h2)
            have HI2 : Hid (OI n0 nj size p nd0 nd' (q + 1) (ow.set k (ow.getD k 0 + 1))) := HI.out.bump hk1 hk2
            rw [hk2] at cn H14
            have co : wr.cell? ⟨w.heap.size, k, none⟩ = some (.int .i64 ((ow.getD k 0 : Nat) : Int)) := by rw [HO.out.arr.cell k, iv_at ow k (by rw [HI.out.len]; exact hk1)]
            have fo := HO.out.arr.free k
            have how : ow.getD k 0 ≤ 131072 := Nat.le_trans (HI.out.top k) (by omega)
            have HO2 : Hid (∀ m, OS w ((wr.drewN m).setCell ⟨w.heap.size, k, none⟩ (.int .i64 (((ow.getD k 0 : Nat) : Int) + 1))) (ow.set k (ow.getD k 0 + 1))) := fun m => by
              have hd : Below w.heap.size w (wr.drewN m) := below_drewN HO.out.bel m
              have ha : Arr (wr.drewN m) w.heap.size 3 (iv ow) := by
                have hh : (wr.drewN m).heap = wr.heap := by simp
                unfold Arr; rw [hh]; exact HO.out.arr
              refine ⟨hd.setCell (Nat.le_refl _) _, ?_⟩
              rw [← iv_set]
              exact ha.set k _
            have ejn : n0 + k - n0 = k := by omega
            have hji : ((n0 + k : Nat) : Int) - (n0 : Int) = (k : Int) := by omega
            have hji2 : (n0 : Int) + (k : Int) - (n0 : Int) = (k : Int) := by omega
            have hkn' : (k : Int) < (nj : Int) := by omega
            have k0 : (0 : Int) ≤ (k : Int) := by omega
            generalize ow.getD k 0 = oc at *
            clear hk2 HI
            go_wp2_with fail
            go_quiet ((go_at_call 14; exact Calls.quiet_of_same (H14.out _)))
            generalize nq = qq at *
            go_wp2_with fail
            go_roundw
            case rel => exact ⟨q + 1, _, by omega, by go_num, HO2.out qq, HI2⟩
            case measure => simp [intOf]; omega
          · have h2' : ¬ (2 : Int) ≤ (sn : Int) := by omega
            have HI2 : Hid (OI n0 nj size p nd0 nd' (q + 1) ow) := HI.out.skip (HC.out.less HS.out.2 (by rw [row_len HS.out.1]; exact h2))
            generalize nd'.getD q 0 = x at *
            clear HI
            go_wp2_with fail
            go_quiet ((go_at_call 14; exact Calls.quiet_of_same (H14.out _)))
            generalize nq = qq at *
            go_wp2_with fail
            go_roundw
            case rel => exact ⟨q + 1, ow, by omega, by go_num, ⟨below_drewN HO.out.bel qq, by unfold Arr; rw [show (wr.drewN qq).heap = wr.heap from by simp]; exact HO.out.arr⟩, HI2⟩
            case measure => simp [intOf]; omega
        | false =>
          have HNv : Hid (¬ Vis size nd0 p q) := fun h => by have := HBv.out.2 h; cases this
          have HI2 : Hid (OI n0 nj size p nd0 nd' (q + 1) ow) := HI.out.skip (fun j h _ _ => HNv.out h)
          rw [HC.out.same HNv.out] at cn
          generalize nd0.getD q 0 = x at *
          have hxx : (x != x) = false := by simp
          clear HI
          go_wp2_with fail
          go_quiet (fail)
          generalize nq = qq at *
          go_wp2_with fail
          go_roundw
          case rel => exact ⟨q + 1, ow, by omega, by go_num, ⟨below_drewN HO.out.bel qq, by unfold Arr; rw [show (wr.drewN qq).heap = wr.heap from by simp]; exact HO.out.arr⟩, HI2⟩
          case measure => simp [intOf]; omega
      · have hqs' : ¬ (q : Int) < (size : Int) := by omega
        have hqs2 : decide ((q : Int) < (size : Int)) = false := by simp; omega
        have hqs3 : decide (q < size) = false := by simp; omega
        have HNv : Hid (¬ Vis size nd0 p q) := fun h => hqs h.lt.1
        have HI2 : Hid (OI n0 nj size p nd0 nd' (q + 1) ow) := HI.out.skip (fun j h _ _ => HNv.out h)
        rw [HC.out.same HNv.out] at cn
        generalize nd0.getD q 0 = x at *
        have hxx : (x != x) = false := by simp
        clear HI
        go_wp2_with fail
        go_quiet (fail)
        generalize nq = qq at *
        go_wp2_with fail
        go_roundw
        case rel => exact ⟨q + 1, ow, by omega, by go_num, ⟨below_drewN HO.out.bel qq, by unfold Arr; rw [show (wr.drewN qq).heap = wr.heap from by simp]; exact HO.out.arr⟩, HI2⟩
        case measure => simp [intOf]; omega
    · have hqn' : ¬ (q : Int) < (nn : Int) := by omega
      have HOw : Hid (Row wr (some ⟨w.heap.size, 0, none⟩) nj (ints ow) ∧ ∀ j, j < nj → ow.getD j 0 ≠ 0) := by
        have h1 := HI.out
        rw [show q = nn from by omega] at h1
        exact ⟨row_iv HO.out.arr h1.len, h1.done HC.out⟩
      have HC2 : Hid (Cx wr a sa na na' n0 nj nn size p vb sb v fw W nd0 nd' S0 S J) := HC.out.keep HO.out.bel
      have HB2 : Hid (Below w0.heap.size w0 wr) := bel_next HB.out HO.out.bel
      have HW2 : Hid (Row wr wa1 wn1 (ints sw) ∧ SetOf (In size W nd0 p) sw) := ⟨HW.out.1.keep HO.out.bel, HW.out.2⟩
      clear HO HI HC HB HW
      go_wp2_with fail
      refine HK1.out _ _ ?_
      exact t26 _ _ _ _ _ _ _ _ _ _ _ _ _ _ _ _ _ _ _ _ _ _ _ _ _ _ _ _ _ _ _ _ _ _ _ _ _ _ _ _ _ _ _ _ _ _ _ _ _ _ _ _ _ _ _ _ _ _ _ _ _ _ _ _ _ _ _ _ _ _ _ _ _ _ _ _ _ _ _ _ _ _ _ _ _ _ _ _ _ _ _ _ _ _ _ _ _ _ _ _ _ _ _ _ _ _ _ _ _ _ _ _ _ _ _ _ _ _ _ _ _ _ _ _ _ _ _ _ _ _ _ _ _ _ _ _ _ _ _ _ _ _ _ _ _ _ _ _ _ _ _ _ _ _ _ _ _ _ _ _ _ _ _ _ _ _ _ _ _ _ _ _ _ _ _ _ _ _ _ _ _ _ _ _ _ _ _ _ _ _ _ _ _ _ _ _ _ _ _ _ _ _ _ _ _ _ _ _ _ _ _ _ _ _ _ _ _ _ _ _ _ _ _ _ _ _ _ _ _ _ _ _ _ _ _ _ _ _ _ _ _ _ _ _ _ _ _ _ _ _ _ _ _ _ _ _ _ _ _ _ _ _ _ _ _ _ _ _ _ _ _ _ _ _ _ _ _ _ _ _ _ _ _ _ _ _ _ _ _ _ _ _ _ _ _ _ _ _ _ _ _ _ _ _ _ _ _ _ _ _ _ _ _ _ _ _ _ _ _ _ _ _ _ _ _ _ _ _ _ _ _ _ _ _ _ _ _ _ _ _ _ _ _ _ _ _ _ _ _ _ _ _ _ _ _ _ _ _ _ _ _ _ _ _ _ _ _ _ _ _ _ _ _ _ _ _ _ _ _ _ _ _ _ _ _ _ _ _ _ _ _ _ _ _ _ _ _ _ _ _ _ _ _ _ _ _ _ _ _ _ _ _ _ _ _ _ _ _ _ _ _ _ _ _ _ _ _ _ _ _ _ _ _ _ _ _ _ _ _ _ _ _ _ _ _ _ _ _ _ _ _ _ _ _ _ _ _ _ _ _ _ _ _ _ _ _ _ _ _ _ _ _ _ _ _ _ _ _ _ _ _ _ _ _ _ _ _ _ _ _ _ _ _ _ _ _ _ _ _ _ _ _ _ _ _ _ _ _ _ _ _ _ _ _ _ _ _ _ _ _ _ _ _ _ _ _ _ _ _ _ _ _ _ _ _ _ _ _ _ _ _ _ _ _ _ _ _ _ _ _ _ _ _ _ _ _ _ _ _ _ _ _ _ _ _ _ _ _ _ _ _ _ _ _ _ _ _ _ _ _ _ _ _ _ _ _ _ _ _ _ _ _ _ _ _ _ _ _ _ _ _ _ _ w0 wr a sa na na' wa1 n0 c nj sc nn nc' size p vb sb wn1 wc1 v fw W nd0 nd' S0 S J sw HC2 HB2 HW2 hw1 hp63 w.heap.size ow HOw

end Go.Proofs.Qxb6601646a.Nw
