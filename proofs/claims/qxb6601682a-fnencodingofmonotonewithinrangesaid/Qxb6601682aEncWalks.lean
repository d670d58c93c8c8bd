import Derived.Test.Qxb6601682aProg
import Derived.WalkKit
import Derived.WalkSpells
import Derived.WalkLawsBesides
namespace Go.Proofs.Qxb6601682a.Enc
open Go.RowKit

/-- What 'encodingOf' answers. -/
def encI (x : Int) : Int := if x < 2 then 5 else if x < 3 then 6 else if x < 4 then 7 else if x < 5 then 8 else if x < 7 then 9 else 10

theorem encI_le (x y : Int) (h : x ≤ y) : encI x ≤ encI y := by
  unfold encI; split <;> split <;> (try split) <;> (try split) <;> (try split) <;> (try split) <;> (try split) <;> (try split) <;> (try split) <;> (try split) <;> omega
theorem encI_bd (x : Int) : 5 ≤ encI x ∧ encI x ≤ 10 := by
  unfold encI; repeat' split
  all_goals omega
theorem encI_top (x : Int) : (encI x == 10) = decide (7 ≤ x) := by
  unfold encI; repeat' split
  all_goals (first | (rw [decide_eq_false (by omega)]; rfl) | (rw [decide_eq_true (by omega)]; rfl))

theorem ret_int {k : IntKind} {a b : Int} (h : a = b) : Ending.returned (.int k a) = .returned (.int k b) := by rw [h]

/-- encodingOf. -/
theorem enc_any (x : Int) (w : World) :
    Calls Try.prog 17 #[.int .u64 x] w fun e w' => e = .returned (.int .u8 (encI x)) ∧ w' = w := by
  by_cases h2 : x < 2
  · go_enter Try.func17, Try.ntmps17
    go_wp2
    go_ret
    exact ⟨ret_int (by unfold encI; rw [if_pos (by omega)]), rfl⟩
  by_cases h3 : x < 3
  · go_enter Try.func17, Try.ntmps17
    go_wp2
    go_ret
    exact ⟨ret_int (by unfold encI; rw [if_neg (by omega), if_pos (by omega)]), rfl⟩
  by_cases h4 : x < 4
  · go_enter Try.func17, Try.ntmps17
    go_wp2
    go_ret
    exact ⟨ret_int (by unfold encI; rw [if_neg (by omega), if_neg (by omega), if_pos (by omega)]), rfl⟩
  by_cases h5 : x < 5
  · go_enter Try.func17, Try.ntmps17
    go_wp2
    go_ret
    exact ⟨ret_int (by unfold encI; rw [if_neg (by omega), if_neg (by omega), if_neg (by omega), if_pos (by omega)]), rfl⟩
  by_cases h7 : x < 7
  · go_enter Try.func17, Try.ntmps17
    go_wp2
    go_ret
    exact ⟨ret_int (by unfold encI; rw [if_neg (by omega), if_neg (by omega), if_neg (by omega), if_neg (by omega), if_pos (by omega)]), rfl⟩
  · go_enter Try.func17, Try.ntmps17
    go_wp2
    go_ret
    exact ⟨ret_int (by unfold encI; rw [if_neg (by omega), if_neg (by omega), if_neg (by omega), if_neg (by omega), if_neg (by omega)]), rfl⟩

/-- ZZEncodingOf. -/
theorem zenc_any (x : Int) (w : World) :
    Calls Try.prog 6 #[.int .u64 x] w fun e w' => e = .returned (.int .u8 (encI x)) ∧ w' = w := by
  go_enter Try.func6, Try.ntmps6
  go_wp2_with (go_at_call 17; refine (enc_any _ _).mono ?_; rintro e w' ⟨rfl, rfl⟩)
  go_ret
  exact ⟨rfl, rfl⟩
end Go.Proofs.Qxb6601682a.Enc
