import Derived.Test.Qxb6601646aTwLow0
namespace Go.Proofs.Qxb6601646a.Tw
set_option linter.unusedVariables false
open Go.RowKit Go.Proofs.Qxb6601646a.Tj

set_option maxHeartbeats 8000000 in
set_option maxRecDepth 1000000 in
theorem low_A (a : Option Addr) (n c : Nat) (nv tv : Value) (S : List (List Nat)) (w : World) (hn : n ≤ 4096) (HM : Hid (NMat w a n S)) (HS : Hid (∀ u x, Tj.Edge S u x → x < n)) (hmf : ∀ (fn : Fn) (first cap : Array Value) (w : World), (Instr.makeFunc fn first cap).run Try.prog w = .ok (.func fn first cap) w) (B : Nat) (hB : w.heap.size = B) (r : Nat) (hlt : r < n) (hlt' : (r : Int) < (n : Int)) (gk : Nat) (wr : World)
    (u13 u14 u15 u16 u17 u18 u20 u21 u44 u45 u46 u47 u48 u49 u50 u51 u52 u53 u54 u55 u56 u57 u58 u59 u60 u61 u62 u63 u64 u65 u66 u67 u68 u69 u70 u71 u72 u73 u74 u75 u76 u77 u78 u79 u80 u81 u82 u83 u84 u85 u86 u87 u88 u89 u90 u91 u92 u93 u94 u95 u96 u97 u98 u99 u100 u101 u102 u103 u104 u105 u106 u107 u108 u109 u110 u111 u112 u113 u114 u115 u116 u117 u118 u119 u120 u121 u122 u123 u124 u125 u126 u127 u128 u129 u130 u131 u132 u133 u134 u135 u136 u137 u138 u139 u140 u141 u142 u143 u144 u145 u146 u147 u148 u149 u150 u151 u152 u153 u154 u155 u156 u157 u158 u159 u160 u161 u162 u163 u164 u165 u166 u167 u168 u169 u170 u171 u172 u173 u174 u175 u176 u177 u178 u179 u180 u181 u182 u183 u184 u185 u186 u187 u188 u189 u190 u191 u192 u193 u194 u195 u196 u197 : Value) (J : Nat → Act → World → Prop) (K : Act → World → Prop) (Q : Exit → Act → World → Prop)
    (hJ : ∀ (k : Nat) (a' : Act) (w' : World), (∃ u10 u13 u14 u15 u16 u17 u18 u20 u21 u44 u45 u46 u47 u48 u49 u50 u51 u52 u53 u54 u55 u56 u57 u58 u59 u60 u61 u62 u63 u64 u65 u66 u67 u68 u69 u70 u71 u72 u73 u74 u75 u76 u77 u78 u79 u80 u81 u82 u83 u84 u85 u86 u87 u88 u89 u90 u91 u92 u93 u94 u95 u96 u97 u98 u99 u100 u101 u102 u103 u104 u105 u106 u107 u108 u109 u110 u111 u112 u113 u114 u115 u116 u117 u118 u119 u120 u121 u122 u123 u124 u125 u126 u127 u128 u129 u130 u131 u132 u133 u134 u135 u136 u137 u138 u139 u140 u141 u142 u143 u144 u145 u146 u147 u148 u149 u150 u151 u152 u153 u154 u155 u156 u157 u158 u159 u160 u161 u162 u163 u164 u165 u166 u167 u168 u169 u170 u171 u172 u173 u174 u175 u176 u177 u178 u179 u180 u181 u182 u183 u184 u185 u186 u187 u188 u189 u190 u191 u192 u193 u194 u195 u196, (∃ s m sv cv, u10 = Value.int IntKind.i64 m ∧ Hid (TM B n [Value.slice a n c, nv, tv] w w' s sv cv) ∧ Hid (TJ S n (r + 1) s m) ∧ Hid (k = meas S s)) ∧ a' = { tmps := #[Value.agg #[Value.slice a n c, nv, tv], Value.pointer (some { block := B, off := 0 }), Value.int IntKind.i64 0, Value.int IntKind.i64 ↑n, Value.pointer (some { block := B + 2, off := 0 }), Value.pointer (some { block := B + 4, off := 0 }), Value.pointer (some { block := B + 6, off := 0 }), Value.pointer (some { block := B + 7, off := 0 }), Value.pointer (some { block := B + 8, off := 0 }), Value.pointer (some { block := B + 9, off := 0 }), u10, Value.func (Fn.func 42) #[] #[Value.pointer (some { block := B + 9, off := 0 }), Value.pointer (some { block := B + 2, off := 0 }), Value.pointer (some { block := B + 4, off := 0 }), Value.pointer (some { block := B + 6, off := 0 }), Value.pointer (some { block := B + 7, off := 0 }), Value.pointer (some { block := B + 8, off := 0 })], Value.int IntKind.i64 ↑r, u13, u14, u15, u16, u17, u18, undef, u20, u21, Value.pointer (some { block := B, off := 0 }), Value.slice a n c, Value.int IntKind.i64 ↑n, Value.int IntKind.i64 ↑n, Value.slice (some { block := B + 1, off := 0 }) n n, Value.int IntKind.i64 ↑n, Value.slice (some { block := B + 3, off := 0 }) n n, Value.int IntKind.i64 ↑n, Value.slice (some { block := B + 5, off := 0 }) n n, Value.func (Fn.func 42) #[] #[Value.pointer (some { block := B + 9, off := 0 }), Value.pointer (some { block := B + 2, off := 0 }), Value.pointer (some { block := B + 4, off := 0 }), Value.pointer (some { block := B + 6, off := 0 }), Value.pointer (some { block := B + 7, off := 0 }), Value.pointer (some { block := B + 8, off := 0 })], Value.int IntKind.i64 ↑n, Value.int IntKind.i64 ↑r, Value.bool true, Value.int IntKind.i64 ↑r, Value.slice (some { block := B + 1, off := 0 }) n n, Value.int IntKind.i64 ↑r, Value.pointer (some { block := B + 1, off := r }), Value.int IntKind.i64 0, Value.bool false, Value.func (Fn.func 42) #[] #[Value.pointer (some { block := B + 9, off := 0 }), Value.pointer (some { block := B + 2, off := 0 }), Value.pointer (some { block := B + 4, off := 0 }), Value.pointer (some { block := B + 6, off := 0 }), Value.pointer (some { block := B + 7, off := 0 }), Value.pointer (some { block := B + 8, off := 0 })], Value.int IntKind.i64 ↑r, Value.tuple #[], u44, u45, u46, u47, u48, u49, u50, u51, u52, u53, u54, u55, u56, u57, u58, u59, u60, u61, u62, u63, u64, u65, u66, u67, u68, u69, u70, u71, u72, u73, u74, u75, u76, u77, u78, u79, u80, u81, u82, u83, u84, u85, u86, u87, u88, u89, u90, u91, u92, u93, u94, u95, u96, u97, u98, u99, u100, u101, u102, u103, u104, u105, u106, u107, u108, u109, u110, u111, u112, u113, u114, u115, u116, u117, u118, u119, u120, u121, u122, u123, u124, u125, u126, u127, u128, u129, u130, u131, u132, u133, u134, u135, u136, u137, u138, u139, u140, u141, u142, u143, u144, u145, u146, u147, u148, u149, u150, u151, u152, u153, u154, u155, u156, u157, u158, u159, u160, u161, u162, u163, u164, u165, u166, u167, u168, u169, u170, u171, u172, u173, u174, u175, u176, u177, u178, u179, u180, u181, u182, u183, u184, u185, u186, u187, u188, u189, u190, u191, u192, u193, u194, u195, u196, u197, undef], defers := [] }) → J k a' w') (hK : ∀ (a' : Act) (w' : World), Handed J gk a' w' → K a' w')
    (s : TS) (m : Int) (sv cv : Value) (HT : Hid (TM B n [.slice a n c, nv, tv] w wr s sv cv)) (HJ : Hid (TJ S n (r + 1) s m)) (HG : Hid (gk = meas S s)) (cs : List (Nat × Nat)) (v k : Nat) (EC : Hid (s.calls = cs ++ [(v, k)])) (hk0 : k < (scs S v).length) :
    Code.wp Try.prog (((Try.f35.body.bind firstLoop).bind firstLoop).getD .skip) (Exit.then K Q) { tmps := #[Value.agg #[Value.slice a n c, nv, tv], Value.pointer (some { block := B, off := 0 }), Value.int IntKind.i64 0, Value.int IntKind.i64 ↑n, Value.pointer (some { block := B + 2, off := 0 }), Value.pointer (some { block := B + 4, off := 0 }), Value.pointer (some { block := B + 6, off := 0 }), Value.pointer (some { block := B + 7, off := 0 }), Value.pointer (some { block := B + 8, off := 0 }), Value.pointer (some { block := B + 9, off := 0 }), Value.int IntKind.i64 m, Value.func (Fn.func 42) #[] #[Value.pointer (some { block := B + 9, off := 0 }), Value.pointer (some { block := B + 2, off := 0 }), Value.pointer (some { block := B + 4, off := 0 }), Value.pointer (some { block := B + 6, off := 0 }), Value.pointer (some { block := B + 7, off := 0 }), Value.pointer (some { block := B + 8, off := 0 })], Value.int IntKind.i64 ↑r, u13, u14, u15, u16, u17, u18, undef, u20, u21, Value.pointer (some { block := B, off := 0 }), Value.slice a n c, Value.int IntKind.i64 ↑n, Value.int IntKind.i64 ↑n, Value.slice (some { block := B + 1, off := 0 }) n n, Value.int IntKind.i64 ↑n, Value.slice (some { block := B + 3, off := 0 }) n n, Value.int IntKind.i64 ↑n, Value.slice (some { block := B + 5, off := 0 }) n n, Value.func (Fn.func 42) #[] #[Value.pointer (some { block := B + 9, off := 0 }), Value.pointer (some { block := B + 2, off := 0 }), Value.pointer (some { block := B + 4, off := 0 }), Value.pointer (some { block := B + 6, off := 0 }), Value.pointer (some { block := B + 7, off := 0 }), Value.pointer (some { block := B + 8, off := 0 })], Value.int IntKind.i64 ↑n, Value.int IntKind.i64 ↑r, Value.bool true, Value.int IntKind.i64 ↑r, Value.slice (some { block := B + 1, off := 0 }) n n, Value.int IntKind.i64 ↑r, Value.pointer (some { block := B + 1, off := r }), Value.int IntKind.i64 0, Value.bool false, Value.func (Fn.func 42) #[] #[Value.pointer (some { block := B + 9, off := 0 }), Value.pointer (some { block := B + 2, off := 0 }), Value.pointer (some { block := B + 4, off := 0 }), Value.pointer (some { block := B + 6, off := 0 }), Value.pointer (some { block := B + 7, off := 0 }), Value.pointer (some { block := B + 8, off := 0 })], Value.int IntKind.i64 ↑r, Value.tuple #[], u44, u45, u46, u47, u48, u49, u50, u51, u52, u53, u54, u55, u56, u57, u58, u59, u60, u61, u62, u63, u64, u65, u66, u67, u68, u69, u70, u71, u72, u73, u74, u75, u76, u77, u78, u79, u80, u81, u82, u83, u84, u85, u86, u87, u88, u89, u90, u91, u92, u93, u94, u95, u96, u97, u98, u99, u100, u101, u102, u103, u104, u105, u106, u107, u108, u109, u110, u111, u112, u113, u114, u115, u116, u117, u118, u119, u120, u121, u122, u123, u124, u125, u126, u127, u128, u129, u130, u131, u132, u133, u134, u135, u136, u137, u138, u139, u140, u141, u142, u143, u144, u145, u146, u147, u148, u149, u150, u151, u152, u153, u154, u155, u156, u157, u158, u159, u160, u161, u162, u163, u164, u165, u166, u167, u168, u169, u170, u171, u172, u173, u174, u175, u176, u177, u178, u179, u180, u181, u182, u183, u184, u185, u186, u187, u188, u189, u190, u191, u192, u193, u194, u195, u196, u197, undef], defers := [] } wr := by
  conv => arg 2; whnf
  have c8 := cell_of_one HT.out.hcp
  obtain ⟨g, cap, rfl, hg, hcap, ct1, ct2, cf2⟩ := tm_top HT.out EC.out
  have hvn : v < n := HJ.out.ti.stn v (HJ.out.ti.caS (v, k) (by rw [EC.out]; simp)).1
  have hvn' : (v : Int) < (n : Int) := by omega
  have c0 : wr.cell? ⟨B, 0, none⟩ = some (.slice a n c) := HT.out.hg.cell 0
  obtain ⟨b, off, rfl, hb, a', c', hcell, hlen, hrow⟩ := HM.out.at v hvn
  have hbel : Hid (Below w.heap.size w wr) := by have := HT.out.bel; rw [← hB] at this; exact this
  have cr := (hbel.out.cell (p := ⟨b, off + v, none⟩) hb).trans hcell
  have hlc : cs.length ≤ 4096 := by
    have h1 := HJ.out.bc
    have h2 := HJ.out.fn
    rw [EC.out] at h1
    simp at h1
    omega
  have HRow : Hid _ := hrow
  clear hcell hrow
  have i1 : (0 : Int) < (cs.length : Int) + 1 := by omega
  have i2 : (cs.length : Int) < (cs.length : Int) + 1 := by omega
  obtain ⟨lv, HLV⟩ : ∃ lv, Hid ((scs S v).length = lv) := ⟨_, rfl⟩
  rw [HLV.out] at cr hlen
  have hk : k < lv := by rw [← HLV.out]; exact hk0
  have hk' : (k : Int) < (lv : Int) := by omega
  obtain ⟨b', off', rfl, hb', hc0⟩ := HRow.out k (by rw [HLV.out]; exact hk)
  have cw := (hbel.out.cell (p := ⟨b', off' + k, none⟩) hb').trans hc0
  have EW : Hid ((scs S v)[k]? = some ((scs S v).getD k 0)) := getD_of (by rw [HLV.out]; exact hk) 0
  clear hc0
  generalize (scs S v).getD k 0 = x at *
  have hxn : x < n := HS.out v x (List.mem_of_getElem? EW.out)
  have hxn' : (x : Int) < (n : Int) := by omega
  have k0 : (0 : Int) ≤ (k : Int) := by omega
  have v0 : (0 : Int) ≤ (v : Int) := by omega
  have HRow' : Hid True := trivial
  clear HRow HRow'
  go_wp2_with fail
  go_quiet (fail)
  generalize nq = q1 at *
  go_wp2_with fail
  go_quiet (fail)
  generalize nq = q2 at *
  go_upto_region 20 with fail
  have HT2 : Hid (TM B n [.slice (some ⟨b, off, none⟩) n c, nv, tv] w ((wr.drewN (q1 + q2)).setCell ⟨g, cs.length * 2 + 1, none⟩ (.int .i64 ((k : Int) + 1))) { s with calls := cs ++ [(v, k + 1)] } sv (.slice (some ⟨g, 0, none⟩) (cs.length + 1) cap)) := (HT.out.drewN (q1 + q2)).bump EC.out
  generalize (wr.drewN (q1 + q2)).setCell ⟨g, cs.length * 2 + 1, none⟩ (.int .i64 ((k : Int) + 1)) = w2 at *
  clear c8 ct1 ct2 cf2 c0 cr cw hbel HT
  have hx1 : x < s.rank.length := by rw [HJ.out.ti.lr]; exact hxn
  have c2 := cell_of_one HT2.out.hrp
  have c1 := HT2.out.hr.cell x
  rw [iv_at s.rank x hx1] at c1
  have EM : Hid (gk = meas S s) := HG
  by_cases h0 : s.rank.getD x 0 = 0
  · rw [h0] at c1
    obtain ⟨hj, hm⟩ := tj_disc HJ.out EC.out EW.out h0
    have HJ2 : Hid (TJ S n (r + 1) (disc { s with calls := cs ++ [(v, k + 1)] } x) m) := hj
    have HM2 : Hid (meas S (disc { s with calls := cs ++ [(v, k + 1)] } x) < gk) := by show _ < _; have := EM.out; omega
    clear hj hm h0 hx1
    go_wp2_with fail
    refine (disc_any B n _ w w2 _ _ _ x HT2.out hxn (by have := HJ.out.bs; have := HJ.out.fn; show s.st.length ≤ 4096; omega) (by show (cs ++ [(v, k + 1)]).length ≤ 4096; have h1 := HJ.out.bc; have := HJ.out.fn; rw [EC.out] at h1; simp at h1 ⊢; omega) (by have := HJ.out.fn; show s.found ≤ 4096; omega) HJ.out.ti.lr HJ.out.ti.ll HJ.out.ti.lo).mono ?_
    rintro e w3 ⟨rfl, sv3, cv3, hT3⟩
    have HT3 : Hid (TM B n [.slice (some ⟨b, off, none⟩) n c, nv, tv] w w3 (disc { s with calls := cs ++ [(v, k + 1)] } x) sv3 cv3) := hT3
    clear hT3 HT2 c1 c2
    go_wp2_with fail
    go_roundg (meas S (disc { s with calls := cs ++ [(v, k + 1)] } x))
    case measure => exact HM2.out
    case rel => exact ⟨_, m, sv3, cv3, rfl, HT3, HJ2, rfl⟩
  · have hrz : ((s.rank.getD x 0 : Nat) : Int) ≠ 0 := by omega
    obtain ⟨hj, hm⟩ := tj_edge HJ.out EC.out EW.out h0
    have c6 := cell_of_one HT2.out.hop
    have c5 := HT2.out.ho.cell x
    rw [bv_at s.ons x (by rw [HJ.out.ti.lo]; exact hxn)] at c5
    cases ho : s.ons.getD x false with
    | false =>
      rw [ho] at c5
      have ho' : os s x = false := ho
      simp only [ho', if_false, Bool.false_eq_true] at hj hm
      have HJ2 : Hid (TJ S n (r + 1) { s with calls := cs ++ [(v, k + 1)] } m) := hj
      have HM2 : Hid (meas S { s with calls := cs ++ [(v, k + 1)] } < gk) := by show _ < _; have := EM.out; omega
      clear hj hm h0 hx1 ho'
      generalize s.rank.getD x 0 = rx at *
      go_wp2_with fail
      go_roundg (meas S { s with calls := cs ++ [(v, k + 1)] })
      case measure => exact HM2.out
      case rel => exact ⟨_, m, sv, _, rfl, HT2, HJ2, rfl⟩
    | true =>
      rw [ho] at c5
      have ho' : os s x = true := ho
      simp only [ho', if_true] at hj hm
      have c4 := cell_of_one HT2.out.hlp
      have c3 := HT2.out.hl.cell v
      have f3 := HT2.out.hl.free v
      rw [iv_at s.low v (by rw [HJ.out.ti.ll]; exact hvn)] at c3
      obtain ⟨g0, cap0, e0, _, _, ct1, _, _⟩ := tm_top HT2.out rfl
      cases e0
      have hgn : g ≠ B + 3 := by omega
      have hgn' : B + 3 ≠ g := by omega
      obtain ⟨mv, HMV, HE⟩ : ∃ mv : Nat, Hid (min (lw s v) (rk s x) = mv) ∧ Hid (min ((s.low.getD v 0 : Nat) : Int) ((s.rank.getD x 0 : Nat) : Int) = (mv : Int)) := ⟨_, rfl, by show _ = _; unfold lw rk; omega⟩
      rw [HMV.out] at hj hm
      have HJ2 : Hid (TJ S n (r + 1) { s with calls := cs ++ [(v, k + 1)], low := s.low.set v mv } m) := hj
      have HM2 : Hid (meas S { s with calls := cs ++ [(v, k + 1)], low := s.low.set v mv } < gk) := by show _ < _; have := EM.out; omega
      have x0 : (0 : Int) ≤ (x : Int) := by omega
      clear hj hm h0 hx1 ho'
      generalize s.rank.getD x 0 = rx at *
      generalize s.low.getD v 0 = lx at *
      go_wp2_with fail
      go_still_tail 18, (by kernel_rfl)
      change wpList Try.prog _ _ _ _ w2.drew
      have HT3 : Hid (TM B n [.slice (some ⟨b, off, none⟩) n c, nv, tv] w (w2.setCell ⟨B + 3, v, none⟩ (.int .i64 (min (lx : Int) (rx : Int)))).drew { s with calls := cs ++ [(v, k + 1)], low := s.low.set v mv } sv (.slice (some ⟨g, 0, none⟩) (cs.length + 1) cap)) := by
        rw [HE.out]; exact (HT2.out.low v mv).drew
      go_wp2_with fail
      go_roundg (meas S { s with calls := cs ++ [(v, k + 1)], low := s.low.set v mv })
      case measure => exact HM2.out
      case rel => exact ⟨_, m, sv, _, rfl, HT3, HJ2, rfl⟩

end Go.Proofs.Qxb6601646a.Tw
