import Derived.Test.Qxb6601646aNwJunc
namespace Go.Proofs.Qxb6601646a.Nw
open Go.RowKit Go.Proofs.Qxb6601646a.Tw Go.Proofs.Qxb6601646a.Np

theorem addE_len_le (S : List (List Int)) (f : Nat) (t : Int) (i : Nat) : ((addE S f t).getD i []).length ≤ (S.getD i []).length + 1 := by
  by_cases hf : f < S.length
  · rw [addE_get _ _ _ hf]
    split
    · rename_i e; subst e; simp
    · omega
  · have : addE S f t = S := by unfold addE; exact List.set_eq_of_length_le (by omega)
    rw [this]; omega
theorem joinE_eq (fw : Bool) (S : List (List Int)) (a b : Nat) : (if fw then addE (if fw then addE (S ++ [[]]) a (S.length : Int) else addE (S ++ [[]]) S.length (a : Int)) b (S.length : Int) else addE (if fw then addE (S ++ [[]]) a (S.length : Int) else addE (S ++ [[]]) S.length (a : Int)) S.length (b : Int)) = joinE fw S a b := by
  cases fw <;> rfl

/-- What 'at' is told besides the memory. -/
structure AC (n0 size : Nat) (W nd0 : List Int) (S0 : List (List Int)) (wB : World) (B : Nat) (wa : Option Addr) (wn : Nat) : Prop where
  hB : wB.heap.size = B
  hW : Row wB wa wn W
  wn : wn ≤ 65536
  hn : S0.length = n0
  n0 : n0 ≤ 65536
  sz : size ≤ 65536
  ln : nd0.length ≤ 131072
  rl : ∀ i, (S0.getD i []).length ≤ 131072

/-- 'at', answered. -/
def AtRes (B G N nb : Nat) (wB : World) (fw : Bool) (n0 size : Nat) (gv tv wv ov nv : Value) (W nd0 : List Int) (S0 : List (List Int)) (p : Nat) (J : List (Nat × Nat)) (nd : List Int) (e : Ending) (w' : World) : Prop :=
  ∃ v J' nd' S' sv' rv', e = .returned (.int .i64 v) ∧ Hid (AtOk n0 size W nd0 p J nd v J' nd') ∧ Hid (Gr fw S0 J' S') ∧ Hid (GM B G N nb wB w' fw size gv tv wv ov nv S' nd' sv' rv')

theorem gr_small {fw : Bool} {S0 S : List (List Int)} {J : List (Nat × Nat)} (hg : Gr fw S0 J S) (hJ : J.length ≤ 65536) (h0 : ∀ i, (S0.getD i []).length ≤ 131072) (i : Nat) : (S.getD i []).length ≤ 300000 := by
  obtain ⟨E, e1, e2, _⟩ := hg.row i
  rw [e1, List.length_append]
  have := h0 i
  omega

set_option maxHeartbeats 2000000 in
set_option maxRecDepth 100000 in
theorem at_any {B G N nb n0 size wn wc : Nat} {wB : World} {fw : Bool} {gv tv ov nv : Value} {W nd0 : List Int} {S0 : List (List Int)} {wa : Option Addr} (hc : AC n0 size W nd0 S0 wB B wa wn) : ∀ (fuel p : Nat) (w : World) (J : List (Nat × Nat)) (nd : List Int) (S : List (List Int)) (sv : Value) (rv : List Value), size - p < fuel → p ≤ 9223372036854775807 → AtPre n0 size W nd0 p J nd → Gr fw S0 J S → GM B G N nb wB w fw size gv tv (.slice wa wn wc) ov nv S nd sv rv →
    Calls Try.prog 31 #[.pointer (some ⟨N, 0, none⟩), .int .i64 (p : Int)] w (AtRes B G N nb wB fw n0 size gv tv (.slice wa wn wc) ov nv W nd0 S0 p J nd)
  | 0, _, _, _, _, _, _, _, hf, _, _, _, _ => by omega
  | fuel + 1, p, w, J, nd, S, sv, rv, hf, hp63, hpre, hgr, hm => by
    have HC : Hid (AC n0 size W nd0 S0 wB B wa wn) := hc
    have HP : Hid (AtPre n0 size W nd0 p J nd) := hpre
    have HG : Hid (Gr fw S0 J S) := hgr
    have HM : Hid (GM B G N nb wB w fw size gv tv (.slice wa wn wc) ov nv S nd sv rv) := hm
    have IH : Hid (∀ (q : Nat) (w : World) (J : List (Nat × Nat)) (nd : List Int) (S : List (List Int)) (sv : Value) (rv : List Value), size - q < fuel → q ≤ 9223372036854775807 → AtPre n0 size W nd0 q J nd → Gr fw S0 J S → GM B G N nb wB w fw size gv tv (.slice wa wn wc) ov nv S nd sv rv → Calls Try.prog 31 #[.pointer (some ⟨N, 0, none⟩), .int .i64 (q : Int)] w (AtRes B G N nb wB fw n0 size gv tv (.slice wa wn wc) ov nv W nd0 S0 q J nd)) := fun q w J nd S sv rv => at_any hc fuel q w J nd S sv rv
    have c2 : w.cell? ⟨N, 2, none⟩ = some (.int .i64 (size : Int)) := hm.hN.cell 2
    have c3 : w.cell? ⟨N, 3, none⟩ = some (.slice wa wn wc) := hm.hN.cell 3
    have c4 : w.cell? ⟨N, 4, none⟩ = some nv := hm.hN.cell 4
    have c0 : w.cell? ⟨N, 0, none⟩ = some (.pointer (some ⟨G, 0, none⟩)) := hm.hN.cell 0
    have hsz := hc.sz
    have hwn := hc.wn
    have hp1 : 1 ≤ p := hpre.pos
    clear hc hpre hgr hm
    by_cases hps : size ≤ p
    · have hps' : (size : Int) ≤ (p : Int) := by omega
      obtain ⟨x, rfl⟩ : ∃ x, p = size + x := ⟨p - size, by omega⟩
      have hxe : ((size + x : Nat) : Int) - (size : Int) = (x : Int) := by omega
      have hlW : W.length = wn := HC.out.hW.1
      by_cases hx : x < wn
      · have hx' : (x : Int) < (wn : Int) := by omega
        obtain ⟨b, off, rfl, hb, hcell⟩ := HC.out.hW.at x hx
        have hbel : Below wB.heap.size wB w := by rw [HC.out.hB]; exact HM.out.bel
        have cw := (hbel.cell (p := ⟨b, off + x, none⟩) hb).trans hcell
        have HA : Hid (AtOk n0 size W nd0 (size + x) J nd (W.getD x 0) J nd) := at_leaf HP.out (by omega) (.inr (by rw [Nat.add_sub_cancel_left]; exact getD_of (by omega) 0))
        clear hcell hbel
        generalize W.getD x 0 = v at *
        go_enter Try.func31, Try.ntmps31
        go_wp2_with fail
        go_ret
        exact ⟨v, J, nd, S, sv, rv, rfl, HA, HG, HM⟩
      · have hx' : ¬ (x : Int) < (wn : Int) := by omega
        have HA : Hid (AtOk n0 size W nd0 (size + x) J nd (-1) J nd) := at_leaf HP.out (by omega) (.inl ⟨by rw [Nat.add_sub_cancel_left]; exact List.getElem?_eq_none (by omega), rfl⟩)
        go_enter Try.func31, Try.ntmps31
        go_wp2_with fail
        go_ret
        exact ⟨-1, J, nd, S, sv, rv, rfl, HA, HG, HM⟩
    · have hps' : ¬ (size : Int) ≤ (p : Int) := by omega
      have hpn : p < nd.length := by have := HP.out.len; have := HP.out.inp.l; omega
      obtain ⟨hnv, c5, f5⟩ := HM.out.node_cell p hpn
      have hnl : nd.length ≤ 131072 := by rw [HP.out.len]; exact HC.out.ln
      have hpn' : (p : Int) < (nd.length : Int) := by omega
      subst hnv
      by_cases hst : nd.getD p 0 = -2
      · have E0 : Hid (nd[p]? = some (-2)) := by have := getD_of hpn 0; rw [hst] at this; exact this
        rw [hst] at c5
        clear hst f5
        generalize hNL : nd.length = NL at *
        have HNL : Hid (nd.length = NL) := hNL
        clear hNL
        have H1 : Hid (Calls Try.prog 31 #[.pointer (some ⟨N, 0, none⟩), .int .i64 (2 * (p : Int))] w (AtRes B G N nb wB fw n0 size gv tv (.slice wa wn wc) ov (.slice (some ⟨nb, 0, none⟩) NL NL) W nd0 S0 (2 * p) J nd)) := by
          have := IH.out (2 * p) w J nd S sv rv (by omega) (by omega) (pre_left HP.out) HG.out HM.out
          rw [show ((2 * p : Nat) : Int) = 2 * (p : Int) from by omega] at this
          exact this
        go_enter Try.func31, Try.ntmps31
        go_wp2_with fail
        refine H1.out.mono ?_
        rintro e w1 ⟨l, J1, nd1, S1, sv1, rv1, rfl, HA1, HG1, HM1⟩
        have H2 : Hid (Calls Try.prog 31 #[.pointer (some ⟨N, 0, none⟩), .int .i64 (2 * (p : Int) + 1)] w1 (AtRes B G N nb wB fw n0 size gv tv (.slice wa wn wc) ov (.slice (some ⟨nb, 0, none⟩) NL NL) W nd0 S0 (2 * p + 1) J1 nd1)) := by
          have := IH.out (2 * p + 1) w1 J1 nd1 S1 sv1 rv1 (by omega) (by omega) (pre_right HP.out HA1.out) HG1.out HM1.out
          rw [show ((2 * p + 1 : Nat) : Int) = 2 * (p : Int) + 1 from by omega] at this
          exact this
        clear H1 HM HG HM1 HG1 IH c0 c2 c3 c4 c5
        go_wp2_with fail
        refine H2.out.mono ?_
        rintro e w2 ⟨r, J2, nd2, S2, sv2, rv2, rfl, HA2, HG2, HM2⟩
        clear H2
        have hln2 : nd2.length = NL := by rw [HA2.out.len, HA1.out.len, HNL.out]
        have hJ2 : J2.length ≤ 65536 := by
          have h1 := HA2.out.num
          have h2 := HA1.out.num
          have h3 := HP.out.num
          have h4 := cnt_le size nd0
          omega
        have hS2 : S2.length = n0 + J2.length := by rw [HG2.out.len, HC.out.hn]
        have hn0 := HC.out.n0
        have hl1 : -1 ≤ l := HA1.out.ans.ge.1
        have hr1 : -1 ≤ r := HA2.out.ans.ge.1
        by_cases hl0 : l < 0
        · have HA : Hid (AtOk n0 size W nd0 p J nd r J2 (nd2.set p r)) := at_made HP.out (by omega) E0.out HA1.out HA2.out (.inl ⟨hl0, rfl, rfl⟩)
          obtain ⟨hnv, c5, f5⟩ := HM2.out.node_cell p (by omega)
          have c4 : w2.cell? ⟨N, 4, none⟩ = some (.slice (some ⟨nb, 0, none⟩) NL NL) := HM2.out.hN.cell 4
          have HMe : Hid (GM B G N nb wB (w2.setCell ⟨nb, p, none⟩ (.int .i64 r)) fw size gv tv (.slice wa wn wc) ov (.slice (some ⟨nb, 0, none⟩) NL NL) S2 (nd2.set p r) sv2 rv2) := HM2.out.node p (by omega) r
          clear hnv HA1 HA2 HM2 E0 HP
          generalize nd2.getD p 0 = y at *
          go_wp2_with fail
          go_ret
          exact ⟨r, J2, _, S2, sv2, rv2, rfl, HA, HG2, HMe⟩
        · have hl0' : ¬ l < 0 := hl0
          by_cases hrl : 0 ≤ r ∧ r ≠ l
          · obtain ⟨hr0, hrl⟩ := hrl
            obtain ⟨a, rfl⟩ : ∃ a : Nat, l = (a : Int) := ⟨l.toNat, by omega⟩
            obtain ⟨b, rfl⟩ : ∃ b : Nat, r = (b : Int) := ⟨r.toNat, by omega⟩
            have hab : a ≠ b := fun e => hrl (by rw [e])
            have ha : a < n0 + J2.length := by
              have h1 := HA1.out.ans.ge.2
              obtain ⟨E, hE⟩ := HA2.out.ext
              have : J1.length ≤ J2.length := by rw [hE]; simp
              omega
            have hb : b < n0 + J2.length := by have h1 := HA2.out.ans.ge.2; omega
            have hne : ((b : Int) != (a : Int)) = true := by simp; omega
            have HA : Hid (AtOk n0 size W nd0 p J nd ((n0 + J2.length : Nat) : Int) (J2 ++ [(a, b)]) (nd2.set p ((n0 + J2.length : Nat) : Int))) := at_made HP.out (by omega) E0.out HA1.out HA2.out (.inr (.inl ⟨a, b, rfl, rfl, hab, rfl, rfl⟩))
            have HGj : Hid (Gr fw S0 (J2 ++ [(a, b)]) (joinE fw S2 a b)) := gr_join HG2.out (by rw [HC.out.hn]; exact ha) (by rw [HC.out.hn]; exact hb) hab
            have c0 : w2.cell? ⟨N, 0, none⟩ = some (.pointer (some ⟨G, 0, none⟩)) := HM2.out.hN.cell 0
            have HSm : Hid (∀ i, (S2.getD i []).length ≤ 300000) := gr_small HG2.out hJ2 HC.out.rl
            have HJc : Hid (Calls Try.prog 36 #[.pointer (some ⟨G, 0, none⟩)] w2 fun e w' => e = .returned (.int .i64 (S2.length : Int)) ∧ ∃ sv' rv', Hid (GM B G N nb wB w' fw size gv tv (.slice wa wn wc) ov (.slice (some ⟨nb, 0, none⟩) NL NL) (S2 ++ [[]]) nd2 sv' rv')) := junc_any HM2.out (by omega)
            have hab' : a ≠ S2.length := by omega
            have hbb' : b ≠ S2.length := by omega
            have haS : a < S2.length := by omega
            have hbS : b < S2.length := by omega
            rw [← hS2] at HA
            clear HA1 HA2 HG2 HM2 E0 HP hS2 ha hb
            generalize hSL : S2.length = SL at *
            have HSL : Hid (S2.length = SL) := hSL
            clear hSL
            go_wp2_with fail
            refine HJc.out.mono ?_
            rintro e w3 ⟨rfl, sv3, rv3, HM3⟩
            have HE1 : Hid (Calls Try.prog 37 #[.pointer (some ⟨N, 0, none⟩), .int .i64 (a : Int), .int .i64 (SL : Int)] w3 fun e w' => e = .returned (.tuple #[]) ∧ ∃ sv' rv', Hid (GM B G N nb wB w' fw size gv tv (.slice wa wn wc) ov (.slice (some ⟨nb, 0, none⟩) NL NL) (if fw then addE (S2 ++ [[]]) a (SL : Int) else addE (S2 ++ [[]]) SL (a : Int)) nd2 sv' rv')) := nedge_any HM3.out a SL hab' (by rw [List.length_append, HSL.out]; simp only [List.length_singleton]; split <;> omega) (by rw [app_get]; exact Nat.le_trans (HSm.out _) (by omega))
            clear HJc c0
            go_wp2_with fail
            refine HE1.out.mono ?_
            rintro e w4 ⟨rfl, sv4, rv4, HM4⟩
            have HE2 : Hid (Calls Try.prog 37 #[.pointer (some ⟨N, 0, none⟩), .int .i64 (b : Int), .int .i64 (SL : Int)] w4 fun e w' => e = .returned (.tuple #[]) ∧ ∃ sv' rv', Hid (GM B G N nb wB w' fw size gv tv (.slice wa wn wc) ov (.slice (some ⟨nb, 0, none⟩) NL NL) (joinE fw S2 a b) nd2 sv' rv')) := by
              have h := nedge_any HM4.out b SL hbb' (by cases fw <;> simp [addE_length, HSL.out] <;> omega) (by
                refine Nat.le_trans (m := 300001) ?_ (by omega)
                cases fw
                · exact Nat.le_trans (addE_len_le _ _ _ _) (by rw [app_get]; have := HSm.out (if false = true then b else SL); omega)
                · exact Nat.le_trans (addE_len_le _ _ _ _) (by rw [app_get]; have := HSm.out (if true = true then b else SL); omega))
              have e := joinE_eq fw S2 a b
              rw [HSL.out] at e
              rw [e] at h
              exact h
            clear HE1 HM3
            go_wp2_with fail
            refine HE2.out.mono ?_
            rintro e w5 ⟨rfl, sv5, rv5, HM5⟩
            obtain ⟨hnv, c5, f5⟩ := HM5.out.node_cell p (by omega)
            have c4 : w5.cell? ⟨N, 4, none⟩ = some (.slice (some ⟨nb, 0, none⟩) NL NL) := HM5.out.hN.cell 4
            have HMe : Hid (GM B G N nb wB (w5.setCell ⟨nb, p, none⟩ (.int .i64 (SL : Int))) fw size gv tv (.slice wa wn wc) ov (.slice (some ⟨nb, 0, none⟩) NL NL) (joinE fw S2 a b) (nd2.set p (SL : Int)) sv5 rv5) := HM5.out.node p (by omega) SL
            clear hnv HE2 HM4 HM5
            generalize nd2.getD p 0 = y at *
            go_wp2_with fail
            go_ret
            exact ⟨_, _, _, _, sv5, rv5, rfl, HA, HGj, HMe⟩
          · have hk : r < 0 ∨ r = l := by omega
            have HA : Hid (AtOk n0 size W nd0 p J nd l J2 (nd2.set p l)) := at_made HP.out (by omega) E0.out HA1.out HA2.out (.inr (.inr ⟨by omega, hk, rfl, rfl⟩))
            obtain ⟨hnv, c5, f5⟩ := HM2.out.node_cell p (by omega)
            have c4 : w2.cell? ⟨N, 4, none⟩ = some (.slice (some ⟨nb, 0, none⟩) NL NL) := HM2.out.hN.cell 4
            have HMe : Hid (GM B G N nb wB (w2.setCell ⟨nb, p, none⟩ (.int .i64 l)) fw size gv tv (.slice wa wn wc) ov (.slice (some ⟨nb, 0, none⟩) NL NL) S2 (nd2.set p l) sv2 rv2) := HM2.out.node p (by omega) l
            clear hnv HA1 HA2 HM2 E0 HP hrl
            generalize nd2.getD p 0 = y at *
            by_cases hr0 : 0 ≤ r
            · have hrl : r = l := by omega
              subst hrl
              have hne : (r != r) = false := by simp
              clear hk
              go_wp2_with fail
              go_ret
              exact ⟨r, J2, _, S2, sv2, rv2, rfl, HA, HG2, HMe⟩
            · have hr0' : ¬ 0 ≤ r := hr0
              have hr0b : decide (0 ≤ r) = false := by simp; omega
              clear hk
              go_wp2_with fail
              go_ret
              exact ⟨l, J2, _, S2, sv2, rv2, rfl, HA, HG2, HMe⟩
      · have E0 : Hid (nd[p]? = some (nd.getD p 0)) := getD_of hpn 0
        have HA : Hid (AtOk n0 size W nd0 p J nd (nd.getD p 0) J nd) := at_kept HP.out (by omega) E0.out hst
        have hst' : ¬ nd.getD p 0 = -2 := hst
        have HM' : Hid (GM B G N nb wB w fw size gv tv (.slice wa wn wc) ov (.slice (some ⟨nb, 0, none⟩) nd.length nd.length) S nd sv rv) := HM
        generalize nd.getD p 0 = v at *
        generalize hNL : nd.length = NL at *
        go_enter Try.func31, Try.ntmps31
        go_wp2_with fail
        go_ret
        exact ⟨v, J, nd, S, sv, rv, rfl, HA, HG, HM'⟩
end Go.Proofs.Qxb6601646a.Nw
