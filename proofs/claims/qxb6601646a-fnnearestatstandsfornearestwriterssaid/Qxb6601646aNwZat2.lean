import Derived.Test.Qxb6601646aNwCx
namespace Go.Proofs.Qxb6601646a.Nw
open Go.RowKit Go.Proofs.Qxb6601646a.Tw Go.Proofs.Qxb6601646a.Np

theorem gm_start2 {B nb size H : Nat} {wB w : World} {fw : Bool} {gv tv wv ov nv sv : Value} {S : List (List Int)} {nd : List Int} {rv : List Value} (hH : w.heap.size = H) (bel : Below B wB w) (hnd : (Arr w nb 3 (zv nd) ∧ nv = .slice (some ⟨nb, 0, none⟩) nd.length nd.length) ∨ (nd = [] ∧ nv = nilv)) (hsv : w.ownsRow B 23 1 sv S.length rv) (rows : Rows w B nb rv S) (bB : B ≤ nb) (bS : nb < w.heap.size + 2) (hBw : B ≤ w.heap.size) :
    GM B H (H + 1) nb wB ((w.alloc (.cells #[sv, gv, tv] 58)).alloc (.cells #[.pointer (some ⟨H, 0, none⟩), .bool fw, .int .i64 (size : Int), wv, nv, ov] 63)) fw size gv tv wv ov nv S nd sv rv := by
  subst hH
  have a1 : Arr (w.alloc (.cells #[sv, gv, tv] 58)) w.heap.size 58 [sv, gv, tv] := heap_alloc_new w _
  have a2 : Arr ((w.alloc (.cells #[sv, gv, tv] 58)).alloc (.cells #[.pointer (some ⟨w.heap.size, 0, none⟩), .bool fw, .int .i64 (size : Int), wv, nv, ov] 63)) (w.alloc (.cells #[sv, gv, tv] 58)).heap.size 63 [.pointer (some ⟨w.heap.size, 0, none⟩), .bool fw, .int .i64 (size : Int), wv, nv, ov] := heap_alloc_new _ _
  have e : (w.alloc (.cells #[sv, gv, tv] 58)).heap.size = w.heap.size + 1 := by simp
  rw [e] at a2
  refine ⟨(bel.alloc hBw _).alloc (by simp; omega) _, a1.alloc _, a2, ?_, (hsv.alloc _).alloc _, (rows.alloc _).alloc _, hBw, by omega, bB, by simp; omega⟩
  rcases hnd with ⟨h1, h2⟩ | h
  · exact .inl ⟨(h1.alloc _).alloc _, h2⟩
  · exact .inr h

set_option maxHeartbeats 1000000 in
set_option maxRecDepth 100000 in
theorem zat_any2 {B nb n0 size wn wc gn gc on oc : Nat} {wB w : World} {fw : Bool} {nv sv : Value} {W nd0 : List Int} {S0 : List (List Int)} {rv : List Value} {wa ga oa : Option Addr} {z : Int} {p : Nat} (hc : AC n0 size W nd0 S0 wB B wa wn) (hpre : AtPre n0 size W nd0 p [] nd0) (hp63 : p ≤ 9223372036854775807)
    (bel : Below B wB w) (hnd : (Arr w nb 3 (zv nd0) ∧ nv = .slice (some ⟨nb, 0, none⟩) nd0.length nd0.length) ∨ (nd0 = [] ∧ nv = nilv)) (hsv : w.ownsRow B 23 1 sv S0.length rv) (rows : Rows w B nb rv S0) (bB : B ≤ nb) (bS : nb < w.heap.size + 2) (hBw : B ≤ w.heap.size) :
    Calls Try.prog 12 #[sv, .slice ga gn gc, .int .i64 z, .bool fw, .int .i64 (size : Int), .slice wa wn wc, nv, .slice oa on oc, .int .i64 (p : Int)] w (ZRes B nb n0 size wB fw W nd0 S0 p nv) := by
  obtain ⟨H, hH⟩ : ∃ H, w.heap.size = H := ⟨_, rfl⟩
  have HM : Hid (GM B H (H + 1) nb wB ((w.alloc (.cells #[sv, .slice ga gn gc, .int .i64 z] 58)).alloc (.cells #[.pointer (some ⟨H, 0, none⟩), .bool fw, .int .i64 (size : Int), .slice wa wn wc, nv, .slice oa on oc] 63)) fw size (.slice ga gn gc) (.int .i64 z) (.slice wa wn wc) (.slice oa on oc) nv S0 nd0 sv rv) := gm_start2 hH bel hnd hsv rows bB bS hBw
  obtain ⟨sa, sc, rfl⟩ := own_val hsv
  obtain ⟨na, nn, nc, rfl⟩ : ∃ na nn nc, nv = .slice na nn nc := by
    rcases hnd with ⟨_, rfl⟩ | ⟨_, rfl⟩
    · exact ⟨_, _, _, rfl⟩
    · exact ⟨_, _, _, rfl⟩
  have HA : Hid (Calls Try.prog 31 #[.pointer (some ⟨H + 1, 0, none⟩), .int .i64 (p : Int)] ((w.alloc (.cells #[.slice sa S0.length sc, .slice ga gn gc, .int .i64 z] 58)).alloc (.cells #[.pointer (some ⟨H, 0, none⟩), .bool fw, .int .i64 (size : Int), .slice wa wn wc, .slice na nn nc, .slice oa on oc] 63)) (AtRes B H (H + 1) nb wB fw n0 size (.slice ga gn gc) (.int .i64 z) (.slice wa wn wc) (.slice oa on oc) (.slice na nn nc) W nd0 S0 p [] nd0)) := at_any hc (size - p + 1) p _ [] nd0 S0 _ rv (by omega) hp63 hpre (gr_start fw S0) HM.out
  clear hc hpre bel hnd hsv rows bB bS hBw HM
  generalize S0.length = SL at *
  go_enter Try.func12, Try.ntmps12
  go_wp2_with fail
  refine HA.out.mono ?_
  rintro e w2 ⟨v, J', nd', S', sv', rv', rfl, HA1, HG1, HM1⟩
  obtain ⟨sa', sc', hsv'⟩ := own_val HM1.out.hsv
  have c0 : w2.cell? ⟨H, 0, none⟩ = some sv' := HM1.out.hG.cell 0
  have c4 : w2.cell? ⟨H + 1, 4, none⟩ = some (.slice na nn nc) := HM1.out.hN.cell 4
  subst hsv'
  clear HA
  generalize S'.length = SL' at *
  go_wp2_with fail
  go_quiet (fail)
  go_wp2_with fail
  go_ret3
  exact ⟨v, J', nd', S', _, rv', H, H + 1, _, _, _, _, rfl, HA1, HG1, HM1.out.drewN nq⟩

/-! ### what the law keeps of all this -/
theorem mks (n : Nat) (hn : n ≤ 65536) (wx : World) : (Instr.makeSlice 22 (.int .i64 (n : Int)) (.int .i64 (n : Int))).run Try.prog wx = .ok (.slice (some ⟨wx.heap.size, 0, none⟩) n n) (wx.alloc (.cells (List.replicate n nilv).toArray 23)) := by
  obtain ⟨i3, hi3, hz30, hz31, hz32⟩ := info_parts info23
  have h := run_make (P := Try.prog) wx 22 23 i3 (.slice none 0 0) Try.underlying22 hi3 hz30 .i64 .i64 n n (by omega) (Int.le_refl _) (by rw [hz32]; omega) (by omega)
  rw [h, hz31, Int.toNat_natCast, ← made_nil]
theorem clone_nb {w w1 w2 : World} {nn : Nat} {nd0 : List Int} {v : Value} {rv : List Value} {S0 : List (List Int)} (hr : Rows w1 w.heap.size w.heap.size rv S0) (hb : Below w.heap.size w w1) (hc : CRes w1 nn nd0 v w2) {sv : Value} {n0 : Nat} (hsv : w1.ownsRow w.heap.size 23 1 sv n0 rv) :
    ∃ nb, ((Arr w2 nb 3 (zv nd0) ∧ v = .slice (some ⟨nb, 0, none⟩) nd0.length nd0.length) ∨ (nd0 = [] ∧ v = nilv)) ∧ Rows w2 w.heap.size nb rv S0 ∧ w.heap.size ≤ nb ∧ nb < w2.heap.size + 2 ∧ w2.ownsRow w.heap.size 23 1 sv n0 rv ∧ Below w.heap.size w w2 := by
  have hlt : ∀ i g, (rv.getD i nilv).ownBlock = some g → g < w1.heap.size := fun i g hg => own_lt (hr.own i) g hg
  have hg := hc.grown
  have hsz := hg.size
  have hbs := hb.size
  have hrows : ∀ nb, w1.heap.size ≤ nb → Rows w2 w.heap.size nb rv S0 := fun nb hnb => ⟨hr.len, fun i => own_grown (hr.own i) hg (fun g _ e => by cases e), hr.dis, fun i g hg => by have := hlt i g hg; omega⟩
  have hsv2 : w2.ownsRow w.heap.size 23 1 sv n0 rv := own_grown hsv hg (fun g _ e => by cases e)
  have hb2 : Below w.heap.size w w2 := Below.grown hb hg hbs (fun k hk => by cases hk)
  rcases hc with ⟨rfl, rfl, rfl, _⟩ | ⟨rfl, hl, ha, _⟩
  · exact ⟨w2.heap.size, .inr ⟨rfl, rfl⟩, hrows _ hsz, by omega, by omega, hsv2, hb2⟩
  · exact ⟨w1.heap.size, .inl ⟨ha, by rw [hl]⟩, hrows _ (Nat.le_refl _), hbs, by have := ha.lt; omega, hsv2, hb2⟩
theorem gm_mat {B G N nb size : Nat} {wB w : World} {fw : Bool} {gv tv wv ov nv : Value} {S : List (List Int)} {nd : List Int} {rv : List Value} {sa : Option Addr} {sc : Nat} (h : GM B G N nb wB w fw size gv tv wv ov nv S nd (.slice sa S.length sc) rv) (hl : ∀ i, (S.getD i []).length ≤ 300000) : Mat w sa S.length S := by
  refine ⟨rfl, ?_⟩
  by_cases h0 : S.length = 0
  · exact .inl h0
  · obtain ⟨ob, oc, e, hb, _⟩ := h.hsv.form (by omega)
    cases e
    refine .inr ⟨ob, 0, rfl, own_lt h.hsv ob rfl, fun j hj => ?_⟩
    obtain ⟨ra, rc, hr⟩ := own_val (h.rows.own j)
    have ho := h.rows.own j
    rw [hr] at ho
    refine ⟨ra, _, rc, ?_, Nat.le_trans (hl j) (by omega), ?_⟩
    · rw [Nat.zero_add, own_cell h.hsv j (by omega), getD_of (by rw [h.rows.len]; exact hj) nilv, hr]
    · refine ⟨rfl, ?_⟩
      by_cases h0 : (S.getD j []).length = 0
      · exact .inl h0
      · obtain ⟨g, cap, e, _, _⟩ := ho.form (by omega)
        cases e
        refine .inr ⟨g, 0, rfl, own_lt ho g rfl, fun k hk => ?_⟩
        rw [Nat.zero_add, own_cell ho k (by omega), zv_at _ k hk]
theorem gm_node {B G N nb size nn : Nat} {wB w : World} {fw : Bool} {gv tv wv ov nv : Value} {S : List (List Int)} {nd : List Int} {rv : List Value} {sv : Value} (h : GM B G N nb wB w fw size gv tv wv ov nv S nd sv rv) (hl : nd.length = nn) : ∃ na c, nv = .slice na nn c ∧ Row w na nn nd := by
  rcases h.hnd with ⟨h1, h2⟩ | ⟨h1, h2⟩
  · refine ⟨_, _, by rw [h2, hl], hl, .inr ⟨nb, 0, rfl, h1.lt, fun j hj => ?_⟩⟩
    rw [Nat.zero_add, h1.cell j, zv_at nd j (by omega)]
  · subst h1
    have e : nn = 0 := hl.symm
    subst e
    exact ⟨none, 0, h2, rfl, .inl rfl⟩
theorem rown_of {w w' : World} {vb sb : Nat} {a : Option Addr} {n : Nat} {l : List Int} (h : Row w a n l) (hb : Below w.heap.size w w') (h1 : w.heap.size ≤ vb) (h2 : w.heap.size ≤ sb) : RowN w' vb sb a n l := by
  refine ⟨h.1, ?_⟩
  rcases h.2 with h0 | ⟨b, off, e, hlt, hc⟩
  · exact .inl h0
  · exact .inr ⟨b, off, e, Nat.lt_of_lt_of_le hlt hb.size, by omega, by omega, fun j hj => (hb.cell (p := ⟨b, off + j, none⟩) hlt).trans (hc j hj)⟩
theorem below_kept {w w5 w6 : World} {vb sb : Nat} (h : Below w.heap.size w w5) (hk : Kept vb sb w5 w6) (h1 : w.heap.size ≤ vb) (h2 : w.heap.size ≤ sb) : Below w.heap.size w w6 :=
  ⟨hk.os.trans h.os, hk.tape.trans h.tape, hk.output.trans h.output, Nat.le_trans h.size hk.size, fun k hk' => (hk.block k (Nat.lt_of_lt_of_le hk' h.size) (by omega) (by omega)).trans (h.block k hk')⟩
theorem cx_make {wB w3 w6 w5 : World} {a sa na na' : Option Addr} {n0 nn size p vb sb : Nat} {v : Int} {fw : Bool} {W nd0 nd' : List Int} {S0 S : List (List Int)} {J : List (Nat × Nat)} {vis' : List Bool} {sl' : List Value}
    (m0 : Mat wB a n0 S0) (r0 : Row wB na nn nd0) (m1 : Mat w3 sa S.length S) (r1 : Row w3 na' nn nd') (hB3 : Below wB.heap.size wB w3) (hB5 : Below w3.heap.size w3 w5) (hvb : w3.heap.size ≤ vb) (hsb : w3.heap.size ≤ sb)
    (ns : NS vb sb size W nd0 p w5 w6 (List.replicate size false) vis' (List.replicate size nilv) sl') (ok : AtOk n0 size W nd0 p [] nd0 v J nd') (gr : Gr fw S0 J S) (inp : Inp n0 size W nd0) (b0 : n0 ≤ 65536) (b1 : size ≤ 65536) (b2 : nn ≤ 131072) (br : ∀ i, (S0.getD i []).length ≤ 131072) :
    Cx w6 a sa na na' n0 J.length nn size p vb sb v fw W nd0 nd' S0 S J ∧ Below wB.heap.size wB w6 := by
  have h36 : Below w3.heap.size w3 w6 := below_kept hB5 ns.kept hvb hsb
  have hBw6 : Below wB.heap.size wB w6 := bel_next hB3 h36
  have hlen : S.length = n0 + J.length := by rw [gr.len, m0.1]
  have hlv : vis'.length = size := by rw [ns.lv]; simp
  refine ⟨⟨m0.keep hBw6, ?_, r0.keep hBw6, r1.keep h36, fun q hq => ?_, fun q hq => ?_, ns.av.lt, ns.asl.lt, ok, gr, inp, rfl, b0, b1, b2, ?_, br⟩, hBw6⟩
  · rw [← hlen]; exact m1.keep h36
  · refine ⟨vis'.getD q false, by rw [ns.av.cell q, bv_at vis' q (by omega)], ⟨fun h => ?_, fun h => ?_⟩⟩
    · by_cases hv : Vis size nd0 p q
      · exact hv
      · have := ns.vout q hv
        rw [List.getD_eq_getElem?_getD, this, List.getElem?_replicate, if_pos hq] at h
        cases h
    · rw [List.getD_eq_getElem?_getD, ns.vin q h]; rfl
  · obtain ⟨val, e1, a, n, c, s, e2, h2, h3, h4⟩ := ns.sin q hq
    exact ⟨a, n, c, s, by rw [ns.asl.cell q, e1, e2], h2, h3.row, h4⟩
  · have h1 := ok.num
    have h2 := cnt_le size nd0
    simp only [List.length_nil] at h1
    omega
end Go.Proofs.Qxb6601646a.Nw
