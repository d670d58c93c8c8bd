import Derived.Test.Qxb6601647aStrShelf
import Derived.WalkKit
import Derived.WalkSpells
import Derived.WalkLawsBesides
import Derived.RowKit3
namespace Go.Proofs.Qxb6601647a.Mb
open Go.RowKit

/-- What 'matchBank' answers, on lists of bytes. -/
def mbOf (p b : List UInt8) : Int :=
  if p == [42] then 1
  else if Lib.hasSuffix p [42] = true ∧ Lib.hasSuffix (Lib.trimSuffix p [42]) [58, 58] = true then
    (if Lib.hasPrefix b (Lib.trimSuffix p [42]) then 1 else 0)
  else if p == b then 2 else 0

theorem ret_int {k : IntKind} {a b : Int} (h : a = b) : Ending.returned (.int k a) = .returned (.int k b) := by rw [h]

theorem ret_bool {a b : Bool} (h : a = b) : Ending.returned (.bool a) = .returned (.bool b) := by rw [h]

theorem mb_any (p b : ByteArray) (w : World) (hp : p.size ≤ 9223372036854775807) :
    Calls Try.prog 22 #[.string p, .string b] w fun e w' => e = .returned (.int .i64 (mbOf p.data.toList b.data.toList)) ∧ w' = w := by
  have hts : (⟨(Lib.trimSuffix p.data.toList [42]).toArray⟩ : ByteArray).size ≤ 9223372036854775807 := by
    have h1 := Lib.trimSuffix_le p.data.toList [42]
    have h2 := Lib.size_eq p
    have h3 := Lib.size_eq (⟨(Lib.trimSuffix p.data.toList [42]).toArray⟩ : ByteArray)
    simp only at h3
    omega
  go_enter Try.func22, Try.ntmps22
  go_wp2_with (first
    | (go_at_call 25; refine (Try.strings_CutSuffix _ _ _ hp).mono ?_; rintro e w' ⟨rfl, rfl⟩)
    | (go_at_call 26; refine (Try.strings_HasSuffix _ _ _ hts).mono ?_; rintro e w' ⟨rfl, rfl⟩)
    | (go_at_call 27; refine (Try.strings_HasPrefix _ _ _).mono ?_; rintro e w' ⟨rfl, rfl⟩))
  all_goals
    go_ret
    refine ⟨ret_int ?_, rfl⟩
    simp only [ByteArray.toList_eq] at *
    simp_all [mbOf]

/-- ZZMatchBank. -/
theorem zmb_any (p b : ByteArray) (w : World) (hp : p.size ≤ 9223372036854775807) :
    Calls Try.prog 10 #[.string p, .string b] w fun e w' => e = .returned (.int .i64 (mbOf p.data.toList b.data.toList)) ∧ w' = w := by
  go_enter Try.func10, Try.ntmps10
  go_wp2_with (go_at_call 22; refine (mb_any _ _ _ hp).mono ?_; rintro e w' ⟨rfl, rfl⟩)
  go_ret
  exact ⟨rfl, rfl⟩

/-- A pattern matches the bank of its own name. -/
theorem mbOf_self (p : List UInt8) : mbOf p p ≠ 0 := by
  unfold mbOf
  by_cases h1 : (p == [42]) = true
  · simp [h1]
  · rw [if_neg h1]
    by_cases h2 : Lib.hasSuffix p [42] = true ∧ Lib.hasSuffix (Lib.trimSuffix p [42]) [58, 58] = true
    · rw [if_pos h2]
      have : Lib.hasPrefix p (Lib.trimSuffix p [42]) = true := by
        unfold Lib.trimSuffix Lib.hasPrefix
        rw [if_pos h2.1, List.isPrefixOf_iff_prefix]
        exact List.take_prefix _ _
      rw [if_pos this]
      decide
    · rw [if_neg h2]
      simp

/-- zzBytes_FnMatchBankSelf: at most 2^20 bytes. -/
theorem bytesSelf (p : ByteArray) (w : World) (hp : p.size ≤ maxLen) :
    Calls Try.prog 12 #[.string p] w fun e w' => e = .returned (.bool (decide (p.size ≤ 1048576))) ∧ w' = w := by
  unfold maxLen at hp
  by_cases h : (1048576 : Int) < p.size
  · go_enter Try.func12, Try.ntmps12
    go_wp2
    go_ret
    exact ⟨ret_bool (decide_eq_false (by omega)).symm, rfl⟩
  · go_enter Try.func12, Try.ntmps12
    go_wp2
    go_ret
    exact ⟨ret_bool (decide_eq_true (by omega)).symm, rfl⟩

theorem walkSelf (p : ByteArray) (hp : p.size ≤ maxLen) (w : World) :
    Calls Try.prog 4 #[.string p] w fun e w' => e = .returned (.bool true) ∧ Grown w w' := by
  have hb := bytesSelf p w hp
  have hn := mbOf_self p.data.toList
  have hm := zmb_any p p
  generalize mbOf p.data.toList p.data.toList = m at *
  unfold maxLen at hp
  have hn' : (m != 0) = true := by simpa using hn
  clear hn
  by_cases h : p.size ≤ 1048576
  · rw [decide_eq_true h] at hb
    go_enter Try.func4, Try.ntmps4
    go_wp2_with (first
     | (go_at_call 12; refine hb.mono ?_; rintro e w' ⟨rfl, rfl⟩)
     | (go_at_call 10; refine (hm _ (by omega)).mono ?_; rintro e w' ⟨rfl, rfl⟩))
    all_goals
      go_ret
      exact ⟨rfl, Grown.refl _⟩
  · rw [decide_eq_false h] at hb
    go_enter Try.func4, Try.ntmps4
    go_wp2_with (first
     | (go_at_call 12; refine hb.mono ?_; rintro e w' ⟨rfl, rfl⟩))
    go_ret
    exact ⟨rfl, Grown.refl _⟩
end Go.Proofs.Qxb6601647a.Mb
