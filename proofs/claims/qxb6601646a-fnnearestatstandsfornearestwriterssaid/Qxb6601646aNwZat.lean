import Derived.Test.Qxb6601646aNwAt
import Derived.Test.Qxb6601646aNwClone
namespace Go.Proofs.Qxb6601646a.Nw
open Go.RowKit Go.Proofs.Qxb6601646a.Tw Go.Proofs.Qxb6601646a.Np

theorem gm_start {B nb size H : Nat} {wB w : World} {fw : Bool} {gv tv wv ov nv sv : Value} {S : List (List Int)} {nd : List Int} {rv : List Value} (hH : w.heap.size = H) (bel : Below B wB w) (hnd : (Arr w nb 3 (zv nd) ∧ nv = .slice (some ⟨nb, 0, none⟩) nd.length nd.length) ∨ (nd = [] ∧ nv = nilv)) (hsv : w.ownsRow B 23 1 sv S.length rv) (rows : Rows w B nb rv S) (bB : B ≤ nb) (bS : nb < w.heap.size) :
    GM B H (H + 1) nb wB ((w.alloc (.cells #[sv, gv, tv] 58)).alloc (.cells #[.pointer (some ⟨H, 0, none⟩), .bool fw, .int .i64 (size : Int), wv, nv, ov] 63)) fw size gv tv wv ov nv S nd sv rv := by
  subst hH
  have hBw : B ≤ w.heap.size := by omega
  have a1 : Arr (w.alloc (.cells #[sv, gv, tv] 58)) w.heap.size 58 [sv, gv, tv] := heap_alloc_new w _
  have a2 : Arr ((w.alloc (.cells #[sv, gv, tv] 58)).alloc (.cells #[.pointer (some ⟨w.heap.size, 0, none⟩), .bool fw, .int .i64 (size : Int), wv, nv, ov] 63)) (w.alloc (.cells #[sv, gv, tv] 58)).heap.size 63 [.pointer (some ⟨w.heap.size, 0, none⟩), .bool fw, .int .i64 (size : Int), wv, nv, ov] := heap_alloc_new _ _
  have e : (w.alloc (.cells #[sv, gv, tv] 58)).heap.size = w.heap.size + 1 := by simp
  rw [e] at a2
  refine ⟨(bel.alloc hBw _).alloc (by simp; omega) _, a1.alloc _, a2, ?_, (hsv.alloc _).alloc _, (rows.alloc _).alloc _, hBw, by omega, bB, by simp; omega⟩
  rcases hnd with ⟨h1, h2⟩ | h
  · exact .inl ⟨(h1.alloc _).alloc _, h2⟩
  · exact .inr h

/-- ZZNearestAt, answered. -/
def ZRes (B nb n0 size : Nat) (wB : World) (fw : Bool) (W nd0 : List Int) (S0 : List (List Int)) (p : Nat) (nv : Value) (e : Ending) (w' : World) : Prop :=
  ∃ v J nd' S' sv' rv' G N gv tv wv ov, e = .returned (.tuple #[.int .i64 v, sv', nv]) ∧ Hid (AtOk n0 size W nd0 p [] nd0 v J nd') ∧ Hid (Gr fw S0 J S') ∧ Hid (GM B G N nb wB w' fw size gv tv wv ov nv S' nd' sv' rv')
set_option maxHeartbeats 1000000 in
set_option maxRecDepth 100000 in
theorem zat_any {B nb n0 size wn wc gn gc on oc : Nat} {wB w : World} {fw : Bool} {nv sv : Value} {W nd0 : List Int} {S0 : List (List Int)} {rv : List Value} {wa ga oa : Option Addr} {z : Int} {p : Nat} (hc : AC n0 size W nd0 S0 wB B wa wn) (hpre : AtPre n0 size W nd0 p [] nd0) (hp63 : p ≤ 9223372036854775807)
    (bel : Below B wB w) (hnd : (Arr w nb 3 (zv nd0) ∧ nv = .slice (some ⟨nb, 0, none⟩) nd0.length nd0.length) ∨ (nd0 = [] ∧ nv = nilv)) (hsv : w.ownsRow B 23 1 sv S0.length rv) (rows : Rows w B nb rv S0) (bB : B ≤ nb) (bS : nb < w.heap.size) :
    Calls Try.prog 12 #[sv, .slice ga gn gc, .int .i64 z, .bool fw, .int .i64 (size : Int), .slice wa wn wc, nv, .slice oa on oc, .int .i64 (p : Int)] w (ZRes B nb n0 size wB fw W nd0 S0 p nv) := by
  obtain ⟨H, hH⟩ : ∃ H, w.heap.size = H := ⟨_, rfl⟩
  have HM : Hid (GM B H (H + 1) nb wB ((w.alloc (.cells #[sv, .slice ga gn gc, .int .i64 z] 58)).alloc (.cells #[.pointer (some ⟨H, 0, none⟩), .bool fw, .int .i64 (size : Int), .slice wa wn wc, nv, .slice oa on oc] 63)) fw size (.slice ga gn gc) (.int .i64 z) (.slice wa wn wc) (.slice oa on oc) nv S0 nd0 sv rv) := gm_start hH bel hnd hsv rows bB bS
  obtain ⟨sa, sc, rfl⟩ := own_val hsv
  obtain ⟨na, nn, nc, rfl⟩ : ∃ na nn nc, nv = .slice na nn nc := by
    rcases hnd with ⟨_, rfl⟩ | ⟨_, rfl⟩
    · exact ⟨_, _, _, rfl⟩
    · exact ⟨_, _, _, rfl⟩
  have HA : Hid (Calls Try.prog 31 #[.pointer (some ⟨H + 1, 0, none⟩), .int .i64 (p : Int)] ((w.alloc (.cells #[.slice sa S0.length sc, .slice ga gn gc, .int .i64 z] 58)).alloc (.cells #[.pointer (some ⟨H, 0, none⟩), .bool fw, .int .i64 (size : Int), .slice wa wn wc, .slice na nn nc, .slice oa on oc] 63)) (AtRes B H (H + 1) nb wB fw n0 size (.slice ga gn gc) (.int .i64 z) (.slice wa wn wc) (.slice oa on oc) (.slice na nn nc) W nd0 S0 p [] nd0)) := at_any hc (size - p + 1) p _ [] nd0 S0 _ rv (by omega) hp63 hpre (gr_start fw S0) HM.out
  clear hc hpre bel hnd hsv rows bB bS HM
  generalize S0.length = SL at *
  go_enter Try.func12, Try.ntmps12
  go_wp2_with fail
  refine HA.out.mono ?_
  rintro e w2 ⟨v, J', nd', S', sv', rv', rfl, HA1, HG1, HM1⟩
  obtain ⟨sa', sc', hsv'⟩ := own_val HM1.out.hsv
  have c0 : w2.cell? ⟨H, 0, none⟩ = some sv' := HM1.out.hG.cell 0
  have c4 : w2.cell? ⟨H + 1, 4, none⟩ = some (.slice na nn nc) := HM1.out.hN.cell 4
  subst hsv'
  clear HA
  generalize S'.length = SL' at *
  go_wp2_with fail
  go_quiet (fail)
  go_wp2_with fail
  go_ret3
  exact ⟨v, J', nd', S', _, rv', H, H + 1, _, _, _, _, rfl, HA1, HG1, HM1.out.drewN nq⟩
end Go.Proofs.Qxb6601646a.Nw
