import Derived.Test.Qxb6601704aEscSmall
namespace Go.Proofs.Qxb6601704a.Esc
open Go.RowKit

set_option maxRecDepth 100000 in
set_option maxHeartbeats 2000000 in
theorem walk_small (s : ByteArray) (hs : s.size ≤ 1048576) (w : World) :
    Calls Try.prog 3 #[.string s] w fun e w' => e = .returned (.bool true) ∧ Below w.heap.size w w' := by
  have hb := bytes_any s w (by unfold maxLen; omega)
  rw [decide_eq_true hs] at hb
  have HB : Hid (Calls Try.prog 6 #[.string s] w fun e w' => e = .returned (.bool true) ∧ w' = w) := hb
  clear hb
  go_enter Try.func3, Try.ntmps3
  go_wp2_with (first | (go_at_call 6; refine HB.out.mono ?_; rintro e w' ⟨rfl, rfl⟩) | (go_at_call 7; refine (zesc_any s _ hs).mono ?_; rintro e w1 ⟨T, rfl, HT, hbel⟩))
  have hT3 : T.size ≤ 3 * s.size := by
    have h1 := escL_len s.data.toList
    rw [← HT.out, ← Lib.size_eq, ← Lib.size_eq] at h1
    exact h1
  go_loop [4, 5] (fun j i => ∃ k I : Nat, k ≤ s.size ∧ j = .int .i64 k ∧ i = .int .i64 I ∧ I ≤ T.size ∧ Hid (I = (escL (s.data.toList.take k)).length)) (fun _ i => T.size - (intOf i).toNat)
  case atStart => exact ⟨0, 0, Nat.zero_le _, rfl, rfl, Nat.zero_le _, by simp [Hid, escL]⟩
  case round =>
    obtain ⟨k, I, hk, rfl, rfl, hI, HI⟩ := hrel
    by_cases hlt : I < T.size
    · have hlt' : (I : Int) < (T.size : Int) := by omega
      have hks : k < s.size := by
        by_cases h : k < s.size
        · exact h
        · exfalso
          have hke : k = s.size := by omega
          have := HI.out
          rw [List.take_of_length_le (by rw [hke, Lib.size_eq]; exact Nat.le_refl _), ← HT.out, ← Lib.size_eq] at this
          omega
      have hks' : (k : Int) < (s.size : Int) := by omega
      have SP : Hid (T.data.toList = escL (s.data.toList.take k) ++ (escB s[k] ++ escL (s.data.toList.drop (k + 1)))) := by rw [HT.out]; exact split_at s k hks
      have HL : Hid ((escL (s.data.toList.take (k + 1))).length = I + (escB s[k]).length) := by
        show _ = _
        rw [take_snoc s k hks, escL_snoc, List.length_append, ← HI.out]
      by_cases hp : plainB s[k] = true
      · have hx := at_T T _ _ _ 0 s[k] SP.out (by rw [escB_yes _ hp]; rfl)
        rw [← HI.out, Nat.add_zero] at hx
        obtain ⟨h0, hx⟩ := hx
        have HL' : Hid ((escL (s.data.toList.take (k + 1))).length = I + 1) := by have := HL.out; rw [escB_yes _ hp] at this; exact this
        have hq : ((s[k].toNat : Int) == 37) = false := by rw [beq_eq_false_iff_ne]; have := (plain_iff _).1 hp; omega
        have hm := must_any (s[k].toNat : Int) s[k]
        rw [hp] at hm
        go_wp2_with (go_at_call 9; refine (hm _ rfl).mono ?_; rintro e w' ⟨rfl, rfl⟩)
        go_round
        case rel => exact ⟨k + 1, I + 1, by omega, by go_num, by go_num, by omega, HL'.out.symm⟩
        case measure => simp [intOf]; omega
      · have hp' : plainB s[k] = false := by simpa using hp
        have HL' : Hid ((escL (s.data.toList.take (k + 1))).length = I + 3) := by have := HL.out; rw [escB_no _ hp'] at this; exact this
        have hx0 := at_T T _ _ _ 0 37 SP.out (by rw [escB_no _ hp']; rfl)
        have hx1 := at_T T _ _ _ 1 (hexD (s[k].toNat / 16)) SP.out (by rw [escB_no _ hp']; rfl)
        have hx2 := at_T T _ _ _ 2 (hexD (s[k].toNat % 16)) SP.out (by rw [escB_no _ hp']; rfl)
        rw [← HI.out] at hx0 hx1 hx2
        rw [Nat.add_zero] at hx0
        obtain ⟨_, hx0⟩ := hx0
        obtain ⟨h1, hx1⟩ := hx1
        obtain ⟨h2, hx2⟩ := hx2
        have hx0' : T[I].toNat = 37 := hx0
        clear hx0
        have h2' : (I : Int) + 2 < (T.size : Int) := by omega
        have c256 := UInt8.toNat_lt s[k]
        have u1 := fun wx => uh_any ((hexD (s[k].toNat / 16)).toNat : Int) (s[k].toNat / 16) wx (by omega) rfl
        have u2 := fun wx => uh_any ((hexD (s[k].toNat % 16)).toNat : Int) (s[k].toNat % 16) wx (by omega) rfl
        generalize (hexD (s[k].toNat / 16)).toNat = x1 at *
        generalize (hexD (s[k].toNat % 16)).toNat = x2 at *
        have U1 : Hid (∀ wx, Calls Try.prog 8 #[.int .u8 (x1 : Int)] wx fun e w' => e = .returned (.int .i64 ((s[k].toNat / 16 : Nat) : Int)) ∧ w' = wx) := u1
        have U2 : Hid (∀ wx, Calls Try.prog 8 #[.int .u8 (x2 : Int)] wx fun e w' => e = .returned (.int .i64 ((s[k].toNat % 16 : Nat) : Int)) ∧ w' = wx) := u2
        clear u1 u2
        go_wp2_with fail
        refine (U1.out _).mono ?_
        rintro e w' ⟨rfl, rfl⟩
        go_wp2_with fail
        refine (U2.out _).mono ?_
        rintro e w' ⟨rfl, rfl⟩
        go_wp2_with fail
        have hm := must_any (s[k].toNat : Int) s[k]
        rw [hp'] at hm
        rw [show ((s[k].toNat : Int) / 16 * 16 + (s[k].toNat : Int) % 16) = (s[k].toNat : Int) from by omega]
        refine (hm _ rfl).mono ?_
        rintro e w' ⟨rfl, rfl⟩
        go_wp2
        go_round
        case rel => exact ⟨k + 1, I + 3, by omega, by go_num, by go_num, by omega, HL'.out.symm⟩
        case measure => simp [intOf]; omega
    · have hlt' : ¬ (I : Int) < (T.size : Int) := by omega
      have hke : k = s.size := len_end s k hk (by rw [← HT.out, ← HI.out, ← Lib.size_eq]; omega)
      have he : ((k : Int) == (s.size : Int)) = true := by rw [hke]; simp
      clear hke
      go_wp2
      go_ret
      exact ⟨rfl, hbel⟩

/-- The law's walk, whatever the text. -/
theorem walk (s : ByteArray) (hs : s.size ≤ maxLen) (w : World) :
    Calls Try.prog 3 #[.string s] w fun e w' => e = .returned (.bool true) ∧ Below w.heap.size w w' := by
  by_cases h : s.size ≤ 1048576
  · exact walk_small s h w
  · have hb := bytes_any s w hs
    rw [decide_eq_false h] at hb
    go_enter Try.func3, Try.ntmps3
    go_wp2_with (go_at_call 6; refine hb.mono ?_; rintro e w' ⟨rfl, rfl⟩)
    go_ret
    exact ⟨rfl, Below.refl _ _⟩
end Go.Proofs.Qxb6601704a.Esc
