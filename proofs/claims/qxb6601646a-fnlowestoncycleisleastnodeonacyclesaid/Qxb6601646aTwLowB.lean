import Derived.Test.Qxb6601646aTwLow0
namespace Go.Proofs.Qxb6601646a.Tw
set_option linter.unusedVariables false
open Go.RowKit Go.Proofs.Qxb6601646a.Tj

set_option maxHeartbeats 8000000 in
set_option maxRecDepth 1000000 in
theorem low_B (a : Option Addr) (n c : Nat) (nv tv : Value) (S : List (List Nat)) (w : World) (hn : n ≤ 4096) (HM : Hid (NMat w a n S)) (HS : Hid (∀ u x, Tj.Edge S u x → x < n)) (hmf : ∀ (fn : Fn) (first cap : Array Value) (w : World), (Instr.makeFunc fn first cap).run Try.prog w = .ok (.func fn first cap) w) (B : Nat) (hB : w.heap.size = B) (r : Nat) (hlt : r < n) (hlt' : (r : Int) < (n : Int)) (gk : Nat) (wr : World)
    (u13 u14 u15 u16 u17 u18 u20 u21 u44 u45 u46 u47 u48 u49 u50 u51 u52 u53 u54 u55 u56 u57 u58 u59 u60 u61 u62 u63 u64 u65 u66 u67 u68 u69 u70 u71 u72 u73 u74 u75 u76 u77 u78 u79 u80 u81 u82 u83 u84 u85 u86 u87 u88 u89 u90 u91 u92 u93 u94 u95 u96 u97 u98 u99 u100 u101 u102 u103 u104 u105 u106 u107 u108 u109 u110 u111 u112 u113 u114 u115 u116 u117 u118 u119 u120 u121 u122 u123 u124 u125 u126 u127 u128 u129 u130 u131 u132 u133 u134 u135 u136 u137 u138 u139 u140 u141 u142 u143 u144 u145 u146 u147 u148 u149 u150 u151 u152 u153 u154 u155 u156 u157 u158 u159 u160 u161 u162 u163 u164 u165 u166 u167 u168 u169 u170 u171 u172 u173 u174 u175 u176 u177 u178 u179 u180 u181 u182 u183 u184 u185 u186 u187 u188 u189 u190 u191 u192 u193 u194 u195 u196 u197 : Value) (J : Nat → Act → World → Prop) (K : Act → World → Prop) (Q : Exit → Act → World → Prop)
    (hJ : ∀ (k : Nat) (a' : Act) (w' : World), (∃ u10 u13 u14 u15 u16 u17 u18 u20 u21 u44 u45 u46 u47 u48 u49 u50 u51 u52 u53 u54 u55 u56 u57 u58 u59 u60 u61 u62 u63 u64 u65 u66 u67 u68 u69 u70 u71 u72 u73 u74 u75 u76 u77 u78 u79 u80 u81 u82 u83 u84 u85 u86 u87 u88 u89 u90 u91 u92 u93 u94 u95 u96 u97 u98 u99 u100 u101 u102 u103 u104 u105 u106 u107 u108 u109 u110 u111 u112 u113 u114 u115 u116 u117 u118 u119 u120 u121 u122 u123 u124 u125 u126 u127 u128 u129 u130 u131 u132 u133 u134 u135 u136 u137 u138 u139 u140 u141 u142 u143 u144 u145 u146 u147 u148 u149 u150 u151 u152 u153 u154 u155 u156 u157 u158 u159 u160 u161 u162 u163 u164 u165 u166 u167 u168 u169 u170 u171 u172 u173 u174 u175 u176 u177 u178 u179 u180 u181 u182 u183 u184 u185 u186 u187 u188 u189 u190 u191 u192 u193 u194 u195 u196, (∃ s m sv cv, u10 = Value.int IntKind.i64 m ∧ Hid (TM B n [Value.slice a n c, nv, tv] w w' s sv cv) ∧ Hid (TJ S n (r + 1) s m) ∧ Hid (k = meas S s)) ∧ a' = { tmps := #[Value.agg #[Value.slice a n c, nv, tv], Value.pointer (some { block := B, off := 0 }), Value.int IntKind.i64 0, Value.int IntKind.i64 ↑n, Value.pointer (some { block := B + 2, off := 0 }), Value.pointer (some { block := B + 4, off := 0 }), Value.pointer (some { block := B + 6, off := 0 }), Value.pointer (some { block := B + 7, off := 0 }), Value.pointer (some { block := B + 8, off := 0 }), Value.pointer (some { block := B + 9, off := 0 }), u10, Value.func (Fn.func 42) #[] #[Value.pointer (some { block := B + 9, off := 0 }), Value.pointer (some { block := B + 2, off := 0 }), Value.pointer (some { block := B + 4, off := 0 }), Value.pointer (some { block := B + 6, off := 0 }), Value.pointer (some { block := B + 7, off := 0 }), Value.pointer (some { block := B + 8, off := 0 })], Value.int IntKind.i64 ↑r, u13, u14, u15, u16, u17, u18, undef, u20, u21, Value.pointer (some { block := B, off := 0 }), Value.slice a n c, Value.int IntKind.i64 ↑n, Value.int IntKind.i64 ↑n, Value.slice (some { block := B + 1, off := 0 }) n n, Value.int IntKind.i64 ↑n, Value.slice (some { block := B + 3, off := 0 }) n n, Value.int IntKind.i64 ↑n, Value.slice (some { block := B + 5, off := 0 }) n n, Value.func (Fn.func 42) #[] #[Value.pointer (some { block := B + 9, off := 0 }), Value.pointer (some { block := B + 2, off := 0 }), Value.pointer (some { block := B + 4, off := 0 }), Value.pointer (some { block := B + 6, off := 0 }), Value.pointer (some { block := B + 7, off := 0 }), Value.pointer (some { block := B + 8, off := 0 })], Value.int IntKind.i64 ↑n, Value.int IntKind.i64 ↑r, Value.bool true, Value.int IntKind.i64 ↑r, Value.slice (some { block := B + 1, off := 0 }) n n, Value.int IntKind.i64 ↑r, Value.pointer (some { block := B + 1, off := r }), Value.int IntKind.i64 0, Value.bool false, Value.func (Fn.func 42) #[] #[Value.pointer (some { block := B + 9, off := 0 }), Value.pointer (some { block := B + 2, off := 0 }), Value.pointer (some { block := B + 4, off := 0 }), Value.pointer (some { block := B + 6, off := 0 }), Value.pointer (some { block := B + 7, off := 0 }), Value.pointer (some { block := B + 8, off := 0 })], Value.int IntKind.i64 ↑r, Value.tuple #[], u44, u45, u46, u47, u48, u49, u50, u51, u52, u53, u54, u55, u56, u57, u58, u59, u60, u61, u62, u63, u64, u65, u66, u67, u68, u69, u70, u71, u72, u73, u74, u75, u76, u77, u78, u79, u80, u81, u82, u83, u84, u85, u86, u87, u88, u89, u90, u91, u92, u93, u94, u95, u96, u97, u98, u99, u100, u101, u102, u103, u104, u105, u106, u107, u108, u109, u110, u111, u112, u113, u114, u115, u116, u117, u118, u119, u120, u121, u122, u123, u124, u125, u126, u127, u128, u129, u130, u131, u132, u133, u134, u135, u136, u137, u138, u139, u140, u141, u142, u143, u144, u145, u146, u147, u148, u149, u150, u151, u152, u153, u154, u155, u156, u157, u158, u159, u160, u161, u162, u163, u164, u165, u166, u167, u168, u169, u170, u171, u172, u173, u174, u175, u176, u177, u178, u179, u180, u181, u182, u183, u184, u185, u186, u187, u188, u189, u190, u191, u192, u193, u194, u195, u196, u197, undef], defers := [] }) → J k a' w') (hK : ∀ (a' : Act) (w' : World), Handed J gk a' w' → K a' w')
    (s : TS) (m : Int) (sv cv : Value) (HT : Hid (TM B n [.slice a n c, nv, tv] w wr s sv cv)) (HJ : Hid (TJ S n (r + 1) s m)) (HG : Hid (gk = meas S s)) (cs : List (Nat × Nat)) (v k : Nat) (EC : Hid (s.calls = cs ++ [(v, k)])) (hk0 : ¬ k < (scs S v).length) :
    Code.wp Try.prog (((Try.f35.body.bind firstLoop).bind firstLoop).getD .skip) (Exit.then K Q) { tmps := #[Value.agg #[Value.slice a n c, nv, tv], Value.pointer (some { block := B, off := 0 }), Value.int IntKind.i64 0, Value.int IntKind.i64 ↑n, Value.pointer (some { block := B + 2, off := 0 }), Value.pointer (some { block := B + 4, off := 0 }), Value.pointer (some { block := B + 6, off := 0 }), Value.pointer (some { block := B + 7, off := 0 }), Value.pointer (some { block := B + 8, off := 0 }), Value.pointer (some { block := B + 9, off := 0 }), Value.int IntKind.i64 m, Value.func (Fn.func 42) #[] #[Value.pointer (some { block := B + 9, off := 0 }), Value.pointer (some { block := B + 2, off := 0 }), Value.pointer (some { block := B + 4, off := 0 }), Value.pointer (some { block := B + 6, off := 0 }), Value.pointer (some { block := B + 7, off := 0 }), Value.pointer (some { block := B + 8, off := 0 })], Value.int IntKind.i64 ↑r, u13, u14, u15, u16, u17, u18, undef, u20, u21, Value.pointer (some { block := B, off := 0 }), Value.slice a n c, Value.int IntKind.i64 ↑n, Value.int IntKind.i64 ↑n, Value.slice (some { block := B + 1, off := 0 }) n n, Value.int IntKind.i64 ↑n, Value.slice (some { block := B + 3, off := 0 }) n n, Value.int IntKind.i64 ↑n, Value.slice (some { block := B + 5, off := 0 }) n n, Value.func (Fn.func 42) #[] #[Value.pointer (some { block := B + 9, off := 0 }), Value.pointer (some { block := B + 2, off := 0 }), Value.pointer (some { block := B + 4, off := 0 }), Value.pointer (some { block := B + 6, off := 0 }), Value.pointer (some { block := B + 7, off := 0 }), Value.pointer (some { block := B + 8, off := 0 })], Value.int IntKind.i64 ↑n, Value.int IntKind.i64 ↑r, Value.bool true, Value.int IntKind.i64 ↑r, Value.slice (some { block := B + 1, off := 0 }) n n, Value.int IntKind.i64 ↑r, Value.pointer (some { block := B + 1, off := r }), Value.int IntKind.i64 0, Value.bool false, Value.func (Fn.func 42) #[] #[Value.pointer (some { block := B + 9, off := 0 }), Value.pointer (some { block := B + 2, off := 0 }), Value.pointer (some { block := B + 4, off := 0 }), Value.pointer (some { block := B + 6, off := 0 }), Value.pointer (some { block := B + 7, off := 0 }), Value.pointer (some { block := B + 8, off := 0 })], Value.int IntKind.i64 ↑r, Value.tuple #[], u44, u45, u46, u47, u48, u49, u50, u51, u52, u53, u54, u55, u56, u57, u58, u59, u60, u61, u62, u63, u64, u65, u66, u67, u68, u69, u70, u71, u72, u73, u74, u75, u76, u77, u78, u79, u80, u81, u82, u83, u84, u85, u86, u87, u88, u89, u90, u91, u92, u93, u94, u95, u96, u97, u98, u99, u100, u101, u102, u103, u104, u105, u106, u107, u108, u109, u110, u111, u112, u113, u114, u115, u116, u117, u118, u119, u120, u121, u122, u123, u124, u125, u126, u127, u128, u129, u130, u131, u132, u133, u134, u135, u136, u137, u138, u139, u140, u141, u142, u143, u144, u145, u146, u147, u148, u149, u150, u151, u152, u153, u154, u155, u156, u157, u158, u159, u160, u161, u162, u163, u164, u165, u166, u167, u168, u169, u170, u171, u172, u173, u174, u175, u176, u177, u178, u179, u180, u181, u182, u183, u184, u185, u186, u187, u188, u189, u190, u191, u192, u193, u194, u195, u196, u197, undef], defers := [] } wr := by
  conv => arg 2; whnf
  have c8 := cell_of_one HT.out.hcp
  obtain ⟨g, cap, rfl, hg, hcap, ct1, ct2, cf2⟩ := tm_top HT.out EC.out
  have hvn : v < n := HJ.out.ti.stn v (HJ.out.ti.caS (v, k) (by rw [EC.out]; simp)).1
  have hvn' : (v : Int) < (n : Int) := by omega
  have c0 : wr.cell? ⟨B, 0, none⟩ = some (.slice a n c) := HT.out.hg.cell 0
  obtain ⟨b, off, rfl, hb, a', c', hcell, hlen, hrow⟩ := HM.out.at v hvn
  have hbel : Hid (Below w.heap.size w wr) := by have := HT.out.bel; rw [← hB] at this; exact this
  have cr := (hbel.out.cell (p := ⟨b, off + v, none⟩) hb).trans hcell
  have hlc : cs.length ≤ 4096 := by
    have h1 := HJ.out.bc
    have h2 := HJ.out.fn
    rw [EC.out] at h1
    simp at h1
    omega
  have HRow : Hid _ := hrow
  clear hcell hrow
  have i1 : (0 : Int) < (cs.length : Int) + 1 := by omega
  have i2 : (cs.length : Int) < (cs.length : Int) + 1 := by omega
  obtain ⟨lv, HLV⟩ : ∃ lv, Hid ((scs S v).length = lv) := ⟨_, rfl⟩
  rw [HLV.out] at cr hlen
  have hk : ¬ k < lv := by rw [← HLV.out]; exact hk0
  have hk' : ¬ (k : Int) < (lv : Int) := by omega
  have hcp1 : (cs.length : Int) ≤ (cap : Int) := by omega
  have f8 := free_of_one HT.out.hcp
  have v0 : (0 : Int) ≤ (v : Int) := by omega
  clear HRow
  go_wp2_with fail
  go_quiet (fail)
  generalize nq = q1 at *
  go_upto_if 128 with fail
  have HT2 : Hid (TM B n [.slice (some ⟨b, off, none⟩) n c, nv, tv] w ((wr.drewN q1).setCell ⟨B + 8, 0, none⟩ (.slice (some ⟨g, 0, none⟩) cs.length cap)) { s with calls := cs } sv (.slice (some ⟨g, 0, none⟩) cs.length cap)) := (HT.out.drewN q1).leave EC.out
  generalize (wr.drewN q1).setCell ⟨B + 8, 0, none⟩ (.slice (some ⟨g, 0, none⟩) cs.length cap) = w2 at *
  clear c8 f8 ct1 ct2 cf2 c0 cr hbel HT i1 i2 hcp1
  have hk'' : Hid (¬ k < (scs S v).length) := by show ¬ _; rw [HLV.out]; exact hk
  generalize hLL : cs.length = L at *
  have HLL : Hid (cs.length = L) := hLL
  clear hLL
  go_cut [16] from 44 to 196 (fun _ wx => Hid (TM B n [.slice (some ⟨b, off, none⟩) n c, nv, tv] w wx { s with calls := cs, low := lower s cs v } sv (.slice (some ⟨g, 0, none⟩) L cap)))
  case first =>
    cases hcs : cs.getLast? with
    | none =>
      have ecs : cs = [] := by simpa using hcs
      subst ecs
      have eL : L = 0 := HLL.out.symm
      subst eL
      go_wp2_with fail
      go_meet
      case rel => exact HT2.out
    | some f =>
      obtain ⟨p, kp⟩ := f
      obtain ⟨cs', hcs'⟩ := List.getLast?_eq_some_iff.1 hcs
      have HLow : Hid (lower s cs v = s.low.set p (min (lw s p) (lw s v))) := by show _ = _; unfold lower; rw [hcs]
      obtain ⟨L', HL'⟩ : ∃ L', Hid (cs'.length = L') := ⟨_, rfl⟩
      have hlen' : L = L' + 1 := by rw [← HLL.out, hcs', ← HL'.out]; simp
      subst hlen'
      obtain ⟨g0, cap0, e0, _, _, ct1, _, _⟩ := tm_top HT2.out hcs'
      rw [HL'.out] at e0 ct1
      cases e0
      have c8 := cell_of_one HT2.out.hcp
      have c4 := cell_of_one HT2.out.hlp
      have hR := HJ.out.ti.caR
      rw [EC.out, List.pairwise_append] at hR
      have hlt2 : rk s p < rk s v := hR.2.2 (p, kp) (by rw [hcs']; simp) (v, k) (by simp)
      have hpv : p ≠ v := fun e => by rw [e] at hlt2; exact Nat.lt_irrefl _ hlt2
      have hvp : v ≠ p := fun e => hpv e.symm
      have hpn : p < n := HJ.out.ti.stn p (HJ.out.ti.caS (p, kp) (by rw [EC.out, hcs']; simp)).1
      have hpn' : (p : Int) < (n : Int) := by omega
      have p0 : (0 : Int) ≤ (p : Int) := by omega
      have c3v := HT2.out.hl.cell v
      have c3p := HT2.out.hl.cell p
      have f3 := HT2.out.hl.free p
      rw [iv_at s.low v (by rw [HJ.out.ti.ll]; exact hvn)] at c3v
      rw [iv_at s.low p (by rw [HJ.out.ti.ll]; exact hpn)] at c3p
      obtain ⟨mv, HMV, HE⟩ : ∃ mv : Nat, Hid (min (lw s p) (lw s v) = mv) ∧ Hid (min ((s.low.getD p 0 : Nat) : Int) ((s.low.getD v 0 : Nat) : Int) = (mv : Int)) := ⟨_, rfl, by show _ = _; unfold lw; omega⟩
      have hlc' : L' ≤ 4096 := by omega
      rw [HMV.out] at HLow
      have HT3 : Hid (TM B n [.slice (some ⟨b, off, none⟩) n c, nv, tv] w (w2.setCell ⟨B + 3, p, none⟩ (.int .i64 (mv : Int))).drew { s with calls := cs, low := lower s cs v } sv (.slice (some ⟨g, 0, none⟩) (L' + 1) cap)) := by
        rw [HLow.out]; exact (HT2.out.low p mv).drew
      rw [← HE.out] at HT3
      have j1 : (0 : Int) < (L' : Int) + 1 := by omega
      have j2 : (L' : Int) < (L' : Int) + 1 := by omega
      clear hcs hcs' hR hlt2
      generalize s.low.getD v 0 = lx at *
      generalize s.low.getD p 0 = px at *
      go_wp2_with fail
      go_still_tail 12, (by kernel_rfl)
      change wpList Try.prog _ _ _ _ w2.drew
      go_wp2_with fail
      go_meet
      case rel => exact HT3.out
  case rest =>
    clear HT2
    have HT2 : Hid (TM B n [.slice (some ⟨b, off, none⟩) n c, nv, tv] w wc { s with calls := cs, low := lower s cs v } sv (.slice (some ⟨g, 0, none⟩) L cap)) := hcut
    clear hcut
    have c4 := cell_of_one HT2.out.hlp
    have c2 := cell_of_one HT2.out.hrp
    have c3 := HT2.out.hl.cell v
    have c1 := HT2.out.hr.cell v
    rw [iv_at s.rank v (by rw [HJ.out.ti.lr]; exact hvn)] at c1
    rw [iv_at _ v (by show v < (lower s cs v).length; rw [lower_length, HJ.out.ti.ll]; exact hvn)] at c3
    have elow : (lower s cs v).getD v 0 = lw s v := lower_at HJ.out.ti EC.out
    have c3' : wc.cell? ⟨B + 3, v, none⟩ = some (.int .i64 ((lw s v : Nat) : Int)) := by rw [← elow]; exact c3
    have c1' : wc.cell? ⟨B + 1, v, none⟩ = some (.int .i64 ((rk s v : Nat) : Int)) := c1
    clear c3 c1 elow
    by_cases hl : lw s v = rk s v
    · have hq : (((lw s v : Nat) : Int) != ((rk s v : Nat) : Int)) = false := by simp [hl]
      obtain ⟨pre, post, es⟩ := List.append_of_mem (HJ.out.ti.caS (v, k) (by rw [EC.out]; simp)).1
      have ES : Hid (s.st = pre ++ v :: post) := es
      obtain ⟨hj, hm⟩ := tj_pop HJ.out EC.out hk''.out hl es
      have HJ2 : Hid (TJ S n (r + 1) { s with calls := cs, low := lower s cs v, st := pre, ons := clr s.ons (v :: post) } (upd m (v :: post))) := hj
      have HM2 : Hid (meas S { s with calls := cs, low := lower s cs v, st := pre, ons := clr s.ons (v :: post) } < gk) := by show _ < _; have := HG.out; omega
      have lst : s.st.length = pre.length + 1 + post.length := by rw [es]; simp; omega
      have hsl : s.st.length ≤ 4096 := by have := HJ.out.bs; have := HJ.out.fn; omega
      have HR : Hid (∀ x ∈ post, x ≠ v) := by
        intro x hx e
        have hR := HJ.out.ti.stR
        rw [es, List.pairwise_append, List.pairwise_cons] at hR
        have := hR.2.1.1 x hx
        rw [e] at this
        exact Nat.lt_irrefl _ this
      obtain ⟨gs, scap, hsv, hgs, hscap, hsc⟩ := tm_stack HT2.out (by show 0 < s.st.length; omega)
      have hsv' : sv = .slice (some ⟨gs, 0, none⟩) s.st.length scap := hsv
      have hscap' : s.st.length ≤ scap := hscap
      have HSC : Hid (∀ j, j < s.st.length → wc.cell? ⟨gs, j, none⟩ = some (.int .i64 ((s.st.getD j 0 : Nat) : Int))) := hsc
      subst hsv'
      have c7 := cell_of_one HT2.out.hsp
      have f7 := free_of_one HT2.out.hsp
      clear hj hm hl hsv hscap hsc es
      obtain ⟨PL, HPL⟩ : ∃ PL, Hid (pre.length = PL) := ⟨_, rfl⟩
      rw [HPL.out] at lst
      generalize hsll : s.st.length = SL at *
      have HSL : Hid (s.st.length = SL) := hsll
      clear hsll
      generalize lw s v = lx at *
      generalize rk s v = rx at *
      have i1 : (SL : Int) - 1 < (SL : Int) := by omega
      go_wp2_with fail
      go_quiet (fail)
      generalize nq = q3 at *
      go_wp2_with fail
      go_loopw [17] (fun kk wr => ∃ j : Nat, kk = .int .i64 (j : Int) ∧ PL ≤ j ∧ j < SL ∧ wr = wc.drewN q3) (fun kk _ => (intOf kk).toNat)
      case atStart => exact ⟨SL - 1, by congr 1; omega, by omega, by omega, rfl⟩
      case round =>
        obtain ⟨j, rfl, hj1, hj2, rfl⟩ := hrel
        have cj := HSC.out j hj2
        have hj' : (j : Int) < (SL : Int) := by omega
        have j0 : (0 : Int) ≤ (j : Int) := by omega
        by_cases hjp : j = PL
        · have ev : s.st.getD j 0 = v := by
            rw [ES.out, hjp, ← HPL.out]; simp
          rw [ev] at cj
          subst hjp
          have hps : (j : Int) ≤ (SL : Int) := by omega
          have hps2 : (j : Int) ≤ (scap : Int) := by omega
          go_wp2_with fail
          have hne7 : gs ≠ B + 7 := by omega
          have HT4 : Hid (TM B n [.slice (some ⟨b, off, none⟩) n c, nv, tv] w ((wc.drewN q3).setCell ⟨B + 7, 0, none⟩ (.slice (some ⟨gs, 0, none⟩) j scap)) { s with calls := cs, low := lower s cs v, st := pre, ons := clr s.ons ((v :: post).take 0) } (.slice (some ⟨gs, 0, none⟩) j scap) (.slice (some ⟨g, 0, none⟩) L cap)) := by
            have h1 := HT2.out.drewN q3
            rw [← HSL.out] at h1
            have h2 := h1.cut ES.out
            rw [HPL.out] at h2
            exact h2
          have HCo : Hid (∀ i, i < post.length + 1 → ((wc.drewN q3).setCell ⟨B + 7, 0, none⟩ (.slice (some ⟨gs, 0, none⟩) j scap)).cell? ⟨gs, j + i, none⟩ = some (.int .i64 (((v :: post).getD i 0 : Nat) : Int))) := by
            intro i hi
            have h1 := HSC.out (j + i) (by omega)
            rw [ES.out, ← HPL.out, getD_behind, HPL.out] at h1
            have h2 : ((wc.drewN q3).setCell ⟨B + 7, 0, none⟩ (.slice (some ⟨gs, 0, none⟩) j scap)).heap[gs]? = wc.heap[gs]? := by
              rw [Below.heap_setCell _ _ _ _ (by show gs ≠ B + 7; exact hne7)]; simp
            exact (World.cell?_of_block (w := wc) h2).trans h1
          generalize (wc.drewN q3).setCell ⟨B + 7, 0, none⟩ (.slice (some ⟨gs, 0, none⟩) j scap) = w4 at *
          have hCL0 : post.length + 1 = j + 1 + post.length - j := by omega
          generalize j + 1 + post.length - j = CL at *
          clear HT2 HSC c7 f7 cj c1' c3' c2 c4
          go_loopw [176] (fun ii wr => ∃ i : Nat, i ≤ CL ∧ ii = .int .i64 (i : Int) ∧ Hid (TM B n [.slice (some ⟨b, off, none⟩) n c, nv, tv] w wr { s with calls := cs, low := lower s cs v, st := pre, ons := clr s.ons ((v :: post).take i) } (.slice (some ⟨gs, 0, none⟩) j scap) (.slice (some ⟨g, 0, none⟩) L cap)) ∧ Hid (∀ i, i < post.length + 1 → wr.cell? ⟨gs, j + i, none⟩ = some (.int .i64 (((v :: post).getD i 0 : Nat) : Int)))) (fun ii _ => CL - (intOf ii).toNat)
          case atStart => exact ⟨0, Nat.zero_le _, rfl, HT4, HCo⟩
          case round =>
            clear HT4 HCo
            obtain ⟨i, hi, rfl, HT4, HCo⟩ := hrel
            by_cases hic : i < CL
            · have hic' : (i : Int) < (CL : Int) := by omega
              have ci := HCo.out i (by omega)
              have HY : Hid ((v :: post).take (i + 1) = (v :: post).take i ++ [(v :: post).getD i 0]) := take_getD (by simp; omega)
              have hyn : (v :: post).getD i 0 < n := HJ.out.ti.stn _ (by rw [ES.out]; exact List.mem_append.2 (.inr (getD_mem (by simp; omega))))
              generalize (v :: post).getD i 0 = y at *
              have hyn' : (y : Int) < (n : Int) := by omega
              have c6 := cell_of_one HT4.out.hop
              have c5 := HT4.out.ho.cell y
              have f5 := HT4.out.ho.free y
              rw [bv_at _ y (by show y < (clr _ _).length; rw [clr_length, HJ.out.ti.lo]; exact hyn)] at c5
              have HT5 : Hid (TM B n [.slice (some ⟨b, off, none⟩) n c, nv, tv] w (wr.setCell ⟨B + 5, y, none⟩ (.bool false)) { s with calls := cs, low := lower s cs v, st := pre, ons := clr s.ons ((v :: post).take (i + 1)) } (.slice (some ⟨gs, 0, none⟩) j scap) (.slice (some ⟨g, 0, none⟩) L cap)) := by
                rw [HY.out, clr_append]; exact HT4.out.ons y false
              have HCo5 : Hid (∀ i, i < post.length + 1 → (wr.setCell ⟨B + 5, y, none⟩ (.bool false)).cell? ⟨gs, j + i, none⟩ = some (.int .i64 (((v :: post).getD i 0 : Nat) : Int))) := by
                intro i' hi'
                exact (World.cell?_of_block (w := wr) (Below.heap_setCell _ _ _ _ (by show gs ≠ B + 5; omega))).trans (HCo.out i' hi')
              clear HT4 HCo HY
              generalize (clr s.ons (List.take i (v :: post))).getD y false = ob at *
              go_wp2_with fail
              go_roundw
              case rel => exact ⟨i + 1, by omega, by go_num, HT5, HCo5⟩
              case measure => simp [intOf]; omega
            · have hic' : ¬ (i : Int) < (CL : Int) := by omega
              have HT5 : Hid (TM B n [.slice (some ⟨b, off, none⟩) n c, nv, tv] w wr { s with calls := cs, low := lower s cs v, st := pre, ons := clr s.ons (v :: post) } (.slice (some ⟨gs, 0, none⟩) j scap) (.slice (some ⟨g, 0, none⟩) L cap)) := by
                have h1 := HT4.out
                rw [List.take_of_length_le (by simp; omega)] at h1
                exact h1
              clear HT4
              by_cases hpo : post.length = 0
              · have hc1 : ¬ (1 : Int) < (CL : Int) := by omega
                have EU : Hid (upd m (v :: post) = m) := by
                  show _ = _
                  unfold upd
                  rw [if_neg (by rw [List.length_cons]; omega)]
                rw [EU.out] at HJ2
                clear hpo
                go_wp2_with fail
                go_roundg (meas S { s with calls := cs, low := lower s cs v, st := pre, ons := clr s.ons (v :: post) })
                case measure => exact HM2.out
                case rel => exact ⟨_, m, _, _, rfl, HT5, HJ2, rfl⟩
              · have hc1 : (1 : Int) < (CL : Int) := by omega
                have HMin : Hid (Calls Try.prog 43 #[.slice (some ⟨gs, j, none⟩) CL (scap - j)] wr fun e w' => e = .returned (.int .i64 ((least (v :: post) : Nat) : Int)) ∧ wr = w') := by
                  have h1 := Try.slices_Min_int gs j CL (scap - j) (ints (v :: post)) wr (by omega) (by simp [ints]; omega) (by omega) (fun i hi => by rw [ints_getD]; exact HCo.out i (by simpa [ints] using hi))
                  rw [List.take_of_length_le (by simp [ints]; omega), min_least] at h1
                  exact h1.mono fun e w' h => ⟨h.1, h.2.symm⟩
                have EU : Hid (upd m (v :: post) = if m < 0 ∨ ((least (v :: post) : Nat) : Int) < m then ((least (v :: post) : Nat) : Int) else m) := by
                  show _ = _
                  unfold upd
                  rw [if_pos (by rw [List.length_cons]; omega)]
                clear hpo
                generalize least (v :: post) = lm at *
                by_cases hm0 : m < 0
                · rw [EU.out, if_pos (.inl hm0)] at HJ2
                  go_wp2_with (go_at_call 43; refine HMin.out.mono ?_; rintro e w' ⟨rfl, rfl⟩)
                  go_roundg (meas S { s with calls := cs, low := lower s cs v, st := pre, ons := clr s.ons (v :: post) })
                  case measure => exact HM2.out
                  case rel => exact ⟨_, _, _, _, rfl, HT5, HJ2, rfl⟩
                · by_cases hm1 : (lm : Int) < m
                  · rw [EU.out, if_pos (.inr hm1)] at HJ2
                    go_wp2_with (go_at_call 43; refine HMin.out.mono ?_; rintro e w' ⟨rfl, rfl⟩)
                    go_roundg (meas S { s with calls := cs, low := lower s cs v, st := pre, ons := clr s.ons (v :: post) })
                    case measure => exact HM2.out
                    case rel => exact ⟨_, _, _, _, rfl, HT5, HJ2, rfl⟩
                  · rw [EU.out, if_neg (by omega)] at HJ2
                    go_wp2_with (go_at_call 43; refine HMin.out.mono ?_; rintro e w' ⟨rfl, rfl⟩)
                    go_roundg (meas S { s with calls := cs, low := lower s cs v, st := pre, ons := clr s.ons (v :: post) })
                    case measure => exact HM2.out
                    case rel => exact ⟨_, _, _, _, rfl, HT5, HJ2, rfl⟩
        · have ev : s.st.getD j 0 ≠ v := by
            obtain ⟨d, rfl⟩ : ∃ d, j = PL + (d + 1) := ⟨j - PL - 1, by omega⟩
            rw [ES.out, ← HPL.out, getD_behind]
            exact HR.out _ (getD_mem (l := post) (d := d) (by omega))
          have hq2 : (((s.st.getD j 0 : Nat) : Int) != (v : Int)) = true := by rw [bne_iff_ne]; omega
          clear ev
          generalize s.st.getD j 0 = y at *
          go_wp2_with fail
          go_roundw
          case rel => exact ⟨j - 1, by congr 1; omega, by omega, by omega, by first | trivial | rfl⟩
          case measure => simp [intOf]; omega
    · have hq : (((lw s v : Nat) : Int) != ((rk s v : Nat) : Int)) = true := by simp; omega
      obtain ⟨hj, hm⟩ := tj_black HJ.out EC.out hk''.out hl
      have HJ2 : Hid (TJ S n (r + 1) { s with calls := cs, low := lower s cs v } m) := hj
      have HM2 : Hid (meas S { s with calls := cs, low := lower s cs v } < gk) := by show _ < _; have := HG.out; omega
      clear hj hm hl
      generalize lw s v = lx at *
      generalize rk s v = rx at *
      go_wp2_with fail
      go_quiet (fail)
      go_wp2_with fail
      go_roundg (meas S { s with calls := cs, low := lower s cs v })
      case measure => exact HM2.out
      case rel => exact ⟨_, m, sv, _, rfl, HT2.out.drewN nq, HJ2, rfl⟩

end Go.Proofs.Qxb6601646a.Tw
