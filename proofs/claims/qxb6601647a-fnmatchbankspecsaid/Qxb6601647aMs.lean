import Derived.Test.Qxb6601647aMsPlain
import Derived.Deep.QuietTactic
import Derived.BigQuiet
namespace Go.Proofs.Qxb6601647a.Mb
open Go.RowKit

/-- endsInNamespaceStar. -/
theorem ends_any (p : ByteArray) (w : World) (hp : p.size ≤ 65536) :
    Calls Try.prog 23 #[.string p] w fun e w' => e = .returned (.bool (Lib.hasSuffix p.data.toList [58, 58, 42])) ∧ w' = w := by
  have hsz := Lib.size_eq p
  by_cases h : p.size < 3
  · have h' : ¬ (3 : Int) ≤ p.size := by omega
    have e := ends_short p.data.toList (by omega)
    clear hsz
    have E : Hid (Lib.hasSuffix p.data.toList [58, 58, 42] = false) := e
    clear e
    go_enter Try.func23, Try.ntmps23
    go_wp2
    go_ret
    exact ⟨ret_bool E.out.symm, rfl⟩
  · have h' : (3 : Int) ≤ p.size := by omega
    have e := ends_list p.data.toList (p.size - 3) (by omega)
    clear hsz
    have a0 := at_iff p (p.size - 3) (by omega) 58 58 rfl
    have a1 := at_iff p (p.size - 2) (by omega) 58 58 rfl
    have a2 := at_iff p (p.size - 1) (by omega) 42 42 rfl
    rw [show p.size - 3 + 1 = p.size - 2 from by omega, show p.size - 3 + 2 = p.size - 1 from by omega, ← a0, ← a1, ← a2] at e
    have E : Hid ((Lib.hasSuffix p.data.toList [58, 58, 42] = true) ↔ ((p[p.size - 3].toNat : Int) == 58) = true ∧ ((p[p.size - 2].toNat : Int) == 58) = true ∧ ((p[p.size - 1].toNat : Int) == 42) = true) := e
    clear e a0 a1 a2
    go_enter Try.func23, Try.ntmps23
    go_wp2
    all_goals
      go_ret
      refine ⟨ret_bool ?_, rfl⟩
      rw [Bool.eq_iff_iff, E.out]
      simp_all

theorem hit_of (p b : ByteArray) (k : Nat) (h1 : k < b.size) (h2 : k + 1 < b.size) (h3 : k + 2 < p.size)
    (c1 : ((b[k].toNat : Int) == 58) = true) (c2 : ((b[k + 1].toNat : Int) == 58) = true) (c3 : ((p.size : Int) == (k : Int) + 2 + 1) = true)
    (c4 : ((p[k + 2].toNat : Int) == 42) = true) (c5 : p.data.toList.take (k + 2) = b.data.toList.take (k + 2)) : Hit p.data.toList b.data.toList k := by
  have hp := Lib.size_eq p
  have hb := Lib.size_eq b
  have e3 := eq_of_beq c3
  exact ⟨by omega, (at_iff b k h1 58 58 rfl).1 c1, (at_iff b (k + 1) h2 58 58 rfl).1 c2, by omega, (at_iff p (k + 2) h3 42 42 rfl).1 c4, c5⟩

theorem no_succ (p b : List UInt8) (k : Nat) (h : ∀ j, j < k → ¬ Hit p b j) (hk : ¬ Hit p b k) : ∀ j, j < k + 1 → ¬ Hit p b j := by
  intro j hj
  by_cases e : j = k
  · rw [e]; exact hk
  · exact h j (by omega)

theorem no_all (p b : ByteArray) (k : Nat) (hlt : ¬ k + 2 ≤ b.size) (h : ∀ j, j < k → ¬ Hit p.data.toList b.data.toList j) : ∀ j, ¬ Hit p.data.toList b.data.toList j := by
  intro j hj
  have hb := Lib.size_eq b
  have := hj.1
  exact h j (by omega) hj

theorem star_of (p : ByteArray) (h0 : 0 < p.size) (h1 : ((p.size : Int) == 1) = true) (h2 : ((p[0].toNat : Int) == 42) = true) : p.data.toList = [42] := by
  have e1 := eq_of_beq h1
  have hs := Lib.size_eq p
  have a := (at_iff p 0 h0 42 42 rfl).1 h2
  have hs' : p.data.toList.length = 1 := by omega
  clear hs e1 h1 h2
  generalize p.data.toList = l at *
  match l, hs', a with
  | [x], _, a => simpa using a
  | [], hs, _ => simp at hs
  | x :: y :: r, hs, _ => simp at hs

theorem take_of (p b : ByteArray) (k : Nat) : ((p.extract 0 k).toList == (b.extract 0 k).toList) = true ↔ p.data.toList.take k = b.data.toList.take k := by
  rw [Lib.extract_toList, Lib.extract_toList]
  simp

set_option maxHeartbeats 1000000 in
/-- matchBankModel. -/
theorem model_any (p b : ByteArray) (w : World) (hp : p.size ≤ 65536) (hb : b.size ≤ 65536) :
    Calls Try.prog 11 #[.string p, .string b] w fun e w' => e = .returned (.int .i64 (mbOf p.data.toList b.data.toList)) ∧ ∃ n, w' = w.drewN n := by
  by_cases h0 : ((p.size : Int) == 1) = true ∧ ∃ h : 0 < p.size, ((p[0].toNat : Int) == 42) = true
  · obtain ⟨h1, h2, h3⟩ := h0
    have E : Hid (mbOf p.data.toList b.data.toList = 1) := mb_one _ _ (star_of p h2 h1 h3)
    go_enter Try.func11, Try.ntmps11
    go_wp2
    go_ret
    exact ⟨ret_int E.out.symm, 0, rfl⟩
  · have NE : Hid (p.data.toList ≠ [42]) := by
      intro h
      have hs := Lib.size_eq p
      rw [h] at hs
      have hs' : p.size = 1 := hs
      exact h0 ⟨by rw [hs']; rfl, by omega, (at_iff p 0 (by omega) 42 42 rfl).2 (by rw [h]; rfl)⟩
    have hc : ((p.size : Int) == 1) = false ∨ (((p.size : Int) == 1) = true ∧ ∃ h : 0 < p.size, ((p[0].toNat : Int) == 42) = false) := by
      by_cases h1 : ((p.size : Int) == 1) = true
      · have e1 := eq_of_beq h1
        refine .inr ⟨h1, by omega, ?_⟩
        rw [Bool.eq_false_iff]
        exact fun h => h0 ⟨h1, by omega, h⟩
      · exact .inl (by simpa using h1)
    clear h0
    rcases hc with h1 | ⟨h1, h2, h3⟩
    all_goals
      go_enter Try.func11, Try.ntmps11
      go_wp2
      go_loopw [5] (fun i wr => ∃ k n : Nat, (k + 1 ≤ b.size ∨ k = 0) ∧ i = .int .i64 (k + 2) ∧ wr = w.drewN n ∧ Hid (∀ j, j < k → ¬ Hit p.data.toList b.data.toList j)) (fun i _ => b.size + 2 - (intOf i).toNat)
      case atStart => exact ⟨0, 0, .inr rfl, rfl, rfl, fun j hj => absurd hj (Nat.not_lt_zero _)⟩
      case round =>
        obtain ⟨k, n, hk, rfl, rfl, HN⟩ := hrel
        by_cases hlt : k + 2 ≤ b.size
        · have hlt' : (k : Int) + 2 ≤ (b.size : Int) := by omega
          have hk0 : k < b.size := by omega
          have hk1 : k + 1 < b.size := by omega
          have hka : (1 : Int) ≤ (k : Int) + 2 := by omega
          have hkb : (k : Int) + 2 - 1 < (b.size : Int) := by omega
          have hke : (0 : Int) ≤ (k : Int) + 2 := by omega
          go_wp2
          by_cases c1 : ((b[k].toNat : Int) == 58) = true
          · by_cases c2 : ((b[k+1].toNat : Int) == 58) = true
            · by_cases c3 : ((p.size : Int) == (k : Int) + 2 + 1) = true
              · have hk2 : k + 2 < p.size := by simp at c3; omega
                have hkc : (k : Int) + 2 < (p.size : Int) := by omega
                have hkd : (k : Int) + 2 ≤ (p.size : Int) := by omega
                by_cases c4 : ((p[k+2].toNat : Int) == 42) = true
                · have YH : Hid (p.data.toList.take (k + 2) = b.data.toList.take (k + 2) → Hit p.data.toList b.data.toList k) := hit_of p b k hk0 hk1 hk2 c1 c2 c3 c4
                  have NH : Hid (¬ p.data.toList.take (k + 2) = b.data.toList.take (k + 2) → ¬ Hit p.data.toList b.data.toList k) := fun h hh => h hh.2.2.2.2.2
                  go_quiet (fail)
                  go_wp2
                  · have h5 : ((p.extract 0 (k + 2)).toList == (b.extract 0 (k + 2)).toList) = true := by assumption
                    go_ret
                    exact ⟨ret_int (mb_hit _ _ k (YH.out ((take_of p b _).1 h5))).symm, n + nq, by simp⟩
                  · have h5 : ((p.extract 0 (k + 2)).toList == (b.extract 0 (k + 2)).toList) = false := by assumption
                    go_roundw
                    case rel => exact ⟨k + 1, _, .inl (by omega), by go_num, rfl, no_succ _ _ k HN.out (NH.out fun h => by rw [(take_of p b _).2 h] at h5; exact absurd h5 (by decide))⟩
                    case measure => simp [intOf]; omega
                · have c4' : ((p[k+2].toNat : Int) == 42) = false := by simpa using c4
                  have NH : Hid (¬ Hit p.data.toList b.data.toList k) := fun hh => c4 ((at_iff p (k + 2) hk2 42 42 rfl).2 hh.2.2.2.2.1)
                  go_quiet (fail)
                  go_wp2
                  go_roundw
                  case rel => exact ⟨k + 1, _, .inl (by omega), by go_num, rfl, no_succ _ _ k HN.out NH.out⟩
                  case measure => simp [intOf]; omega
              · have c3' : ((p.size : Int) == (k : Int) + 2 + 1) = false := by simpa using c3
                have NH : Hid (¬ Hit p.data.toList b.data.toList k) := fun hh => c3 (by have h4 := hh.2.2.2.1; rw [← Lib.size_eq] at h4; rw [beq_iff_eq]; omega)
                go_quiet (fail)
                go_wp2
                go_roundw
                case rel => exact ⟨k + 1, _, .inl (by omega), by go_num, rfl, no_succ _ _ k HN.out NH.out⟩
                case measure => simp [intOf]; omega
            · have c2' : ((b[k+1].toNat : Int) == 58) = false := by simpa using c2
              have NH : Hid (¬ Hit p.data.toList b.data.toList k) := fun hh => c2 ((at_iff b (k + 1) hk1 58 58 rfl).2 hh.2.2.1)
              go_quiet (fail)
              go_wp2
              go_roundw
              case rel => exact ⟨k + 1, _, .inl (by omega), by go_num, rfl, no_succ _ _ k HN.out NH.out⟩
              case measure => simp [intOf]; omega
          · have c1' : ((b[k].toNat : Int) == 58) = false := by simpa using c1
            have NH : Hid (¬ Hit p.data.toList b.data.toList k) := fun hh => c1 ((at_iff b k hk0 58 58 rfl).2 hh.2.1)
            go_quiet (fail)
            go_wp2
            go_roundw
            case rel => exact ⟨k + 1, _, .inl (by omega), by go_num, rfl, no_succ _ _ k HN.out NH.out⟩
            case measure => simp [intOf]; omega
        · have hlt' : ¬ (k : Int) + 2 ≤ (b.size : Int) := by omega
          have AN : Hid (∀ j, ¬ Hit p.data.toList b.data.toList j) := no_all p b k hlt HN.out
          go_wp2_with fail
          refine (ends_any p _ hp).mono ?_
          rintro e w' ⟨rfl, rfl⟩
          go_wp2
          · have h5 : Lib.hasSuffix p.data.toList [58, 58, 42] = true := by assumption
            go_ret
            exact ⟨ret_int (mb_none _ _ NE.out AN.out h5).symm, _, rfl⟩
          · have h5 : Lib.hasSuffix p.data.toList [58, 58, 42] = false := by assumption
            have h6 : (p.toList == b.toList) = true := by assumption
            rw [ByteArray.toList_eq, ByteArray.toList_eq] at h6
            have E := mb_eq _ b.data.toList NE.out h5
            rw [if_pos h6] at E
            go_ret
            exact ⟨ret_int E.symm, _, rfl⟩
          · have h5 : Lib.hasSuffix p.data.toList [58, 58, 42] = false := by assumption
            have h6 : (p.toList == b.toList) = false := by assumption
            rw [ByteArray.toList_eq, ByteArray.toList_eq] at h6
            have E := mb_eq _ b.data.toList NE.out h5
            rw [if_neg (by rw [h6]; decide)] at E
            go_ret
            exact ⟨ret_int E.symm, _, rfl⟩
end Go.Proofs.Qxb6601647a.Mb
