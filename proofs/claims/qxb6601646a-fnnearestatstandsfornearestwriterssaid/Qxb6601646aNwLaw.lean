import Derived.Test.Qxb6601646aNwZat2
import Derived.Deep.CutRange
import Derived.Test.Qxb6601646aNwT3
namespace Go.Proofs.Qxb6601646a.Nw
set_option linter.unusedVariables false
open Go.RowKit Go.Proofs.Qxb6601646a.Tw Go.Proofs.Qxb6601646a.Np

set_option maxHeartbeats 4000000 in
set_option maxRecDepth 1000000 in
theorem law_any (a ga wa na oa : Option Addr) (n0 c gn gc wn wc nn nc on oc : Nat) (z sz pz : Int) (fw : Bool) (W nd0 lg : List Int) (S0 Ro : List (List Int)) (w : World) (hm : Mat w a n0 S0) (hmo : Mat w oa on Ro) (hrg : Row w ga gn lg) (hrw : Row w wa wn W) (hrn : Row w na nn nd0) (h1 : n0 ≤ 9223372036854775807) (h2 : gn ≤ 9223372036854775807) (h3 : wn ≤ 9223372036854775807) (h4 : nn ≤ 9223372036854775807) (h5 : on ≤ 9223372036854775807) (hpz : pz ≤ 9223372036854775807) :
    Calls Try.prog 3 #[.slice a n0 c, .slice ga gn gc, .int .i64 z, .bool fw, .int .i64 sz, .slice wa wn wc, .slice na nn nc, .slice oa on oc, .int .i64 pz] w fun e w' => e = .returned (.bool true) ∧ Below w.heap.size w w' := by
  have HM : Hid (Mat w a n0 S0) := hm
  have HMo : Hid (Mat w oa on Ro) := hmo
  have HRg : Hid (Row w ga gn lg) := hrg
  have HRw : Hid (Row w wa wn W) := hrw
  have HRn : Hid (Row w na nn nd0) := hrn
  have H9 : Hid (Calls Try.prog 9 #[.slice a n0 c, .slice ga gn gc, .int .i64 z, .bool fw, .int .i64 sz, .slice wa wn wc, .slice na nn nc, .slice oa on oc, .int .i64 pz] w fun e w' => BytesOk S0 Ro n0 on e ∧ w' = w) := bytes_any a ga wa na oa n0 c gn gc wn wc nn nc on oc z sz pz fw S0 Ro w hm hmo h1 h2 h3 h4 h5
  clear hm hmo hrg hrw hrn
  go_enter Try.func3, Try.ntmps3
  refine wp_seq_k fun K0 hK0 => ?_
  have HK0 := hide hK0
  clear hK0
  go_wp2_with fail
  refine HK0.out _ _ ?_
  clear HK0
  refine wp_seq_k fun K1 hK1 => ?_
  have HK1 := hide hK1
  clear hK1
  go_wp2_with fail
  refine H9.out.mono ?_
  rintro e w' ⟨⟨Bb, rfl, hBb⟩, rfl⟩
  clear H9
  cases Bb with
  | false =>
    go_wp2_with fail
    go_ret
    exact ⟨ret_bool rfl, Below.refl _ _⟩
  | true =>
    have HSm : Hid (Small S0 n0 ∧ Small Ro on) := hBb rfl
    clear hBb
    go_wp2_with fail
    refine HK1.out _ _ ?_
    clear HK1
    refine wp_seq_k fun K2 hK2 => ?_
    have HK2 := hide hK2
    clear hK2
    by_cases s1 : (65536 : Int) < n0
    · go_wp2_with fail
      go_ret
      exact ⟨ret_bool rfl, Below.refl _ _⟩
    by_cases s2 : (65536 : Int) < gn
    · go_wp2_with fail
      go_ret
      exact ⟨ret_bool rfl, Below.refl _ _⟩
    by_cases s3 : (65536 : Int) < wn
    · go_wp2_with fail
      go_ret
      exact ⟨ret_bool rfl, Below.refl _ _⟩
    by_cases s4 : (131072 : Int) < nn
    · go_wp2_with fail
      go_ret
      exact ⟨ret_bool rfl, Below.refl _ _⟩
    by_cases s5 : (65536 : Int) < on
    · go_wp2_with fail
      go_ret
      exact ⟨ret_bool rfl, Below.refl _ _⟩
    go_wp2_with fail
    refine HK2.out _ _ ?_
    exact t3 _ _ _ _ _ _ _ _ _ _ _ _ _ _ _ _ _ _ _ _ _ _ _ _ _ _ _ _ _ _ _ _ _ _ _ _ _ _ _ _ _ _ _ _ _ _ _ _ _ _ _ _ _ _ _ _ _ _ _ _ _ _ _ _ _ _ _ _ _ _ _ _ _ _ _ _ _ _ _ _ _ _ _ _ _ _ _ _ _ _ _ _ _ _ _ _ _ _ _ _ _ _ _ _ _ _ _ _ _ _ _ _ _ _ _ _ _ _ _ _ _ _ _ _ _ _ _ _ _ _ _ _ _ _ _ _ _ _ _ _ _ _ _ _ _ _ _ _ _ _ _ _ _ _ _ _ _ _ _ _ _ _ _ _ _ _ _ _ _ _ _ _ _ _ _ _ _ _ _ _ _ _ _ _ _ _ _ _ _ _ _ _ _ _ _ _ _ _ _ _ _ _ _ _ _ _ _ _ _ _ _ _ _ _ _ _ _ _ _ _ _ _ _ _ _ _ _ _ _ _ _ _ _ _ _ _ _ _ _ _ _ _ _ _ _ _ _ _ _ _ _ _ _ _ _ _ _ _ _ _ _ _ _ _ _ _ _ _ _ _ _ _ _ _ _ _ _ _ _ _ _ _ _ _ _ _ _ _ _ _ _ _ _ _ _ _ _ _ _ _ _ _ _ _ _ _ _ _ _ _ _ _ _ _ _ _ _ _ _ _ _ _ _ _ _ _ _ _ _ _ _ _ _ _ _ _ _ _ _ _ _ _ _ _ _ _ _ _ _ _ _ _ _ _ _ _ _ _ _ _ _ _ _ _ _ _ _ _ _ _ _ _ _ _ _ _ _ _ _ _ _ _ _ _ _ _ _ _ _ _ _ _ _ _ _ _ _ _ _ _ _ _ _ _ _ _ _ _ _ _ _ _ _ _ _ _ _ _ _ _ _ _ _ _ _ _ _ _ _ _ _ _ _ _ _ _ _ _ _ _ _ _ _ _ _ _ _ _ _ _ _ _ _ _ _ _ _ _ _ _ _ _ _ _ _ _ _ _ _ _ _ _ _ _ _ _ _ _ _ _ _ _ _ _ _ _ _ _ _ _ _ _ _ _ _ _ _ _ _ _ _ _ _ _ _ _ _ _ _ _ _ _ _ _ _ _ _ _ _ _ _ _ _ _ _ _ _ _ _ _ _ _ _ _ _ _ _ _ _ _ _ _ _ _ _ _ _ _ _ _ _ _ _ _ _ _ _ _ _ _ _ _ _ _ _ _ _ _ _ _ _ _ _ _ _ _ _ _ _ _ _ _ _ _ _ _ _ _ _ _ _ _ _ _ _ _ _ _ _ _ _ _ _ _ _ _ _ w' w' a ga wa na oa n0 c gn gc wn wc nn nc on oc z sz pz fw W nd0 lg S0 Ro HM HMo HRn HRw (Below.refl _ _) (by omega) (by omega) (by omega) (by omega) (by omega) hpz HSm HRg

end Go.Proofs.Qxb6601646a.Nw
