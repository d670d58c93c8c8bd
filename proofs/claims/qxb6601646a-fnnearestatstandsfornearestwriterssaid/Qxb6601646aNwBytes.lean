import Derived.Test.Qxb6601646aTwSmall
namespace Go.Proofs.Qxb6601646a.Nw
open Go.RowKit Go.Proofs.Qxb6601646a.Tw

/-- zzBytes: where it says true, every length is small. -/
def Small (R : List (List Int)) (k : Nat) : Prop := ∀ j, j < k → (R.getD j []).length ≤ 1048576
theorem Small.succ {R : List (List Int)} {k l : Nat} (h : Small R k) (he : (R.getD k []).length = l) (hl : l ≤ 1048576) : Small R (k + 1) := by
  intro j hj
  by_cases e : j = k
  · rw [e, he]; exact hl
  · exact h j (by omega)
def BytesOk (R Ro : List (List Int)) (n on : Nat) (e : Ending) : Prop := ∃ B : Bool, e = .returned (.bool B) ∧ (B = true → Small R n ∧ Small Ro on)
set_option maxHeartbeats 2000000 in
set_option maxRecDepth 100000 in
theorem bytes_any (a ga wa na oa : Option Addr) (n c gn gc wn wc nn nc on oc : Nat) (z sz p : Int) (fw : Bool) (R Ro : List (List Int)) (w : World) (hr : Mat w a n R) (ho : Mat w oa on Ro) (h1 : n ≤ 9223372036854775807) (h2 : gn ≤ 9223372036854775807) (h3 : wn ≤ 9223372036854775807) (h4 : nn ≤ 9223372036854775807) (h5 : on ≤ 9223372036854775807) :
    Calls Try.prog 9 #[.slice a n c, .slice ga gn gc, .int .i64 z, .bool fw, .int .i64 sz, .slice wa wn wc, .slice na nn nc, .slice oa on oc, .int .i64 p] w fun e w' => BytesOk R Ro n on e ∧ w' = w := by
  have HM : Hid (Mat w a n R) := hr
  have HO : Hid (Mat w oa on Ro) := ho
  clear hr ho
  by_cases t1 : (1048576 : Int) < n
  · go_enter Try.func9, Try.ntmps9
    go_wp2_with fail
    go_ret
    exact ⟨⟨false, rfl, fun h => by cases h⟩, rfl⟩
  go_enter Try.func9, Try.ntmps9
  go_wp2_with fail
  go_loop [19, 20] (fun t i => ∃ (k : Nat) (y : Int), k ≤ n ∧ 0 ≤ y ∧ y ≤ 1048576 ∧ i = .int .i64 (k : Int) ∧ t = .int .i64 y ∧ Hid (Small R k)) (fun _ i => n - (intOf i).toNat)
  case atStart => exact ⟨0, n, Nat.zero_le _, by omega, by omega, rfl, by simp, fun j hj => by omega⟩
  case round =>
    obtain ⟨k, y, hk, hy0, hy1, rfl, rfl, HL⟩ := hrel
    by_cases hlt : k < n
    · obtain ⟨b1, off, rfl, hb, a', l', c', hcell, hl', hrow⟩ := HM.out.at k hlt
      have hlt' : (k : Int) < (n : Int) := by omega
      have HE : Hid ((R.getD k []).length = l') := hrow.1
      clear hrow
      by_cases s1 : (1048576 : Int) < l'
      · go_wp2_with fail
        go_ret
        exact ⟨⟨false, rfl, fun h => by cases h⟩, rfl⟩
      · by_cases s2 : (1048576 : Int) < y + l'
        · go_wp2_with fail
          go_ret
          exact ⟨⟨false, rfl, fun h => by cases h⟩, rfl⟩
        · go_wp2_with fail
          go_round
          case rel => exact ⟨k + 1, y + l', by omega, by omega, by omega, by go_num, by go_num, HL.out.succ HE.out (by omega)⟩
          case measure => simp [intOf]; omega
    · have hlt' : ¬ (k : Int) < (n : Int) := by omega
      have HL' : Hid (Small R n) := by have := HL.out; rw [show k = n from by omega] at this; exact this
      clear HL hlt hk
      by_cases t2 : (1048576 : Int) < gn
      · go_wp2_with fail
        go_ret
        exact ⟨⟨false, rfl, fun h => by cases h⟩, rfl⟩
      by_cases u2 : (1048576 : Int) < y + gn
      · go_wp2_with fail
        go_ret
        exact ⟨⟨false, rfl, fun h => by cases h⟩, rfl⟩
      by_cases t3 : (1048576 : Int) < wn
      · go_wp2_with fail
        go_ret
        exact ⟨⟨false, rfl, fun h => by cases h⟩, rfl⟩
      by_cases u3 : (1048576 : Int) < y + gn + wn
      · go_wp2_with fail
        go_ret
        exact ⟨⟨false, rfl, fun h => by cases h⟩, rfl⟩
      by_cases t4 : (1048576 : Int) < nn
      · go_wp2_with fail
        go_ret
        exact ⟨⟨false, rfl, fun h => by cases h⟩, rfl⟩
      by_cases u4 : (1048576 : Int) < y + gn + wn + nn
      · go_wp2_with fail
        go_ret
        exact ⟨⟨false, rfl, fun h => by cases h⟩, rfl⟩
      by_cases t5 : (1048576 : Int) < on
      · go_wp2_with fail
        go_ret
        exact ⟨⟨false, rfl, fun h => by cases h⟩, rfl⟩
      by_cases u5 : (1048576 : Int) < y + gn + wn + nn + on
      · go_wp2_with fail
        go_ret
        exact ⟨⟨false, rfl, fun h => by cases h⟩, rfl⟩
      go_wp2_with fail
      go_loop [19, 21] (fun t i => ∃ (k : Nat) (y : Int), k ≤ on ∧ 0 ≤ y ∧ y ≤ 1048576 ∧ i = .int .i64 (k : Int) ∧ t = .int .i64 y ∧ Hid (Small Ro k)) (fun _ i => on - (intOf i).toNat)
      case atStart => exact ⟨0, y + gn + wn + nn + on, Nat.zero_le _, by omega, by omega, rfl, by simp, fun j hj => by omega⟩
      case round =>
        obtain ⟨k2, y2, hk2, hy20, hy21, rfl, rfl, HL2⟩ := hrel
        by_cases hlt2 : k2 < on
        · obtain ⟨b1, off, rfl, hb, a', l', c', hcell, hl', hrow⟩ := HO.out.at k2 hlt2
          have hlt2' : (k2 : Int) < (on : Int) := by omega
          have HE : Hid ((Ro.getD k2 []).length = l') := hrow.1
          clear hrow
          by_cases s1 : (1048576 : Int) < l'
          · go_wp2_with fail
            go_ret
            exact ⟨⟨false, rfl, fun h => by cases h⟩, rfl⟩
          · by_cases s2 : (1048576 : Int) < y2 + l'
            · go_wp2_with fail
              go_ret
              exact ⟨⟨false, rfl, fun h => by cases h⟩, rfl⟩
            · go_wp2_with fail
              go_round
              case rel => exact ⟨k2 + 1, y2 + l', by omega, by omega, by omega, by go_num, by go_num, HL2.out.succ HE.out (by omega)⟩
              case measure => simp [intOf]; omega
        · have hlt2' : ¬ (k2 : Int) < (on : Int) := by omega
          have HL2' : Hid (Small Ro on) := by have := HL2.out; rw [show k2 = on from by omega] at this; exact this
          go_wp2_with fail
          go_ret
          exact ⟨⟨true, rfl, fun _ => ⟨HL'.out, HL2'.out⟩⟩, rfl⟩
end Go.Proofs.Qxb6601646a.Nw
