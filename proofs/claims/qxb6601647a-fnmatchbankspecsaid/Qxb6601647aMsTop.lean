import Derived.Test.Qxb6601647aMs
namespace Go.Proofs.Qxb6601647a.Mb
open Go.RowKit

/-- zzBytes_FnMatchBankSpec. -/
theorem bytesSpec (p b : ByteArray) (w : World) (hp : p.size ≤ maxLen) (hb : b.size ≤ maxLen) :
    Calls Try.prog 9 #[.string p, .string b] w fun e w' => e = .returned (.bool (decide (p.size + b.size ≤ 1048576))) ∧ w' = w := by
  unfold maxLen at hp hb
  by_cases h1 : (1048576 : Int) < p.size
  · go_enter Try.func9, Try.ntmps9
    go_wp2
    go_ret
    exact ⟨ret_bool (decide_eq_false (by omega)).symm, rfl⟩
  by_cases h2 : (1048576 : Int) < b.size
  · go_enter Try.func9, Try.ntmps9
    go_wp2
    go_ret
    exact ⟨ret_bool (decide_eq_false (by omega)).symm, rfl⟩
  by_cases h3 : (1048576 : Int) < (p.size : Int) + b.size
  · go_enter Try.func9, Try.ntmps9
    go_wp2
    go_ret
    exact ⟨ret_bool (decide_eq_false (by omega)).symm, rfl⟩
  · go_enter Try.func9, Try.ntmps9
    go_wp2
    go_ret
    exact ⟨ret_bool (decide_eq_true (by omega)).symm, rfl⟩

theorem grown_drewN (w : World) (n : Nat) : Grown w (w.drewN n) := by
  induction n with
  | zero => exact Grown.refl _
  | succ n ih => exact ih.drew

theorem walkSpec (p b : ByteArray) (hp : p.size ≤ maxLen) (hb : b.size ≤ maxLen) (w : World) :
    Calls Try.prog 3 #[.string p, .string b] w fun e w' => e = .returned (.bool true) ∧ Grown w w' := by
  have hbs := bytesSpec p b w hp hb
  have hm := zmb_any p b
  have hmod := model_any p b
  generalize mbOf p.data.toList b.data.toList = m at *
  unfold maxLen at hp hb
  by_cases h : p.size + b.size ≤ 1048576
  · rw [decide_eq_true h] at hbs
    by_cases h1 : (65536 : Int) < p.size
    · go_enter Try.func3, Try.ntmps3
      go_wp2_with (first
       | (go_at_call 9; refine hbs.mono ?_; rintro e w' ⟨rfl, rfl⟩))
      go_ret
      exact ⟨rfl, Grown.refl _⟩
    by_cases h2 : (65536 : Int) < b.size
    · go_enter Try.func3, Try.ntmps3
      go_wp2_with (first
       | (go_at_call 9; refine hbs.mono ?_; rintro e w' ⟨rfl, rfl⟩))
      go_ret
      exact ⟨rfl, Grown.refl _⟩
    · have hmod' := fun w => hmod w (by omega) (by omega)
      have hm' := fun w => hm w (by omega)
      clear hmod hm
      go_enter Try.func3, Try.ntmps3
      go_wp2_with (first
       | (go_at_call 9; refine hbs.mono ?_; rintro e w' ⟨rfl, rfl⟩)
       | (go_at_call 10; refine (hm' _).mono ?_; rintro e w' ⟨rfl, rfl⟩)
       | (go_at_call 11; refine (hmod' _).mono ?_; rintro e w' ⟨rfl, n, rfl⟩))
      go_ret
      exact ⟨rfl, grown_drewN _ _⟩
  · rw [decide_eq_false h] at hbs
    go_enter Try.func3, Try.ntmps3
    go_wp2_with (first
     | (go_at_call 9; refine hbs.mono ?_; rintro e w' ⟨rfl, rfl⟩))
    go_ret
    exact ⟨rfl, Grown.refl _⟩
end Go.Proofs.Qxb6601647a.Mb
