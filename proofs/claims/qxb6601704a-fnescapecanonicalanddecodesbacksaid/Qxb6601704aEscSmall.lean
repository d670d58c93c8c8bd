import Derived.Test.Qxb6601704aEscWalk
namespace Go.Proofs.Qxb6601704a.Esc
open Go.RowKit

theorem ret_int {k : IntKind} {a b : Int} (h : a = b) : Ending.returned (.int k a) = .returned (.int k b) := by rw [h]
theorem ret_bool {a b : Bool} (h : a = b) : Ending.returned (.bool a) = .returned (.bool b) := by rw [h]

theorem hexD_val (n : Nat) (h : n < 16) : (hexD n).toNat = if n < 10 then 48 + n else 55 + n := by
  match n, h with
  | 0, _ => rfl
  | 1, _ => rfl
  | 2, _ => rfl
  | 3, _ => rfl
  | 4, _ => rfl
  | 5, _ => rfl
  | 6, _ => rfl
  | 7, _ => rfl
  | 8, _ => rfl
  | 9, _ => rfl
  | 10, _ => rfl
  | 11, _ => rfl
  | 12, _ => rfl
  | 13, _ => rfl
  | 14, _ => rfl
  | 15, _ => rfl
  | n + 16, h => omega

/-- zlUpperHex at an upper-case hex digit. -/
theorem uh_any (m : Int) (n : Nat) (w : World) (hn : n < 16) (hm : m = ((hexD n).toNat : Int)) :
    Calls Try.prog 8 #[.int .u8 m] w fun e w' => e = .returned (.int .i64 (n : Int)) ∧ w' = w := by
  rw [hexD_val n hn] at hm
  by_cases h : n < 10
  · rw [if_pos h] at hm
    have h1 : (48 : Int) ≤ m := by omega
    have h2 : m ≤ (57 : Int) := by omega
    have e : m - 48 = (n : Int) := by omega
    clear hm
    have E : Hid (m - 48 = (n : Int)) := e
    clear e
    go_enter Try.func8, Try.ntmps8
    go_wp2
    go_ret
    exact ⟨ret_int E.out, rfl⟩
  · rw [if_neg h] at hm
    have h1 : (65 : Int) ≤ m := by omega
    have h2 : m ≤ (70 : Int) := by omega
    have e : m - 65 + 10 = (n : Int) := by omega
    clear hm
    have E : Hid (m - 65 + 10 = (n : Int)) := e
    clear e
    go_enter Try.func8, Try.ntmps8
    go_wp2
    go_ret
    exact ⟨ret_int E.out, rfl⟩

/-- zlMustEscape. -/
theorem must_any (m : Int) (c : UInt8) (w : World) (hm : m = (c.toNat : Int)) :
    Calls Try.prog 9 #[.int .u8 m] w fun e w' => e = .returned (.bool (!plainB c)) ∧ w' = w := by
  by_cases hp : plainB c = true
  · rw [hp]
    obtain ⟨p1, p2, p3, p4⟩ := (plain_iff c).1 hp
    have q1 : ¬ m ≤ (32 : Int) := by omega
    have q2 : ¬ (127 : Int) ≤ m := by omega
    have q3 : (m == 35) = false := by rw [beq_eq_false_iff_ne]; omega
    have q4 : (m == 37) = false := by rw [beq_eq_false_iff_ne]; omega
    clear hm p1 p2 p3 p4
    go_enter Try.func9, Try.ntmps9
    go_wp2
    go_ret
    exact ⟨rfl, rfl⟩
  · have hw := not_plain c hp
    have hp' : plainB c = false := by simpa using hp
    rw [hp', ← hm] at *
    clear hp hp'
    rcases hw with q1 | ⟨q1, q2⟩ | ⟨q1, q2, q3⟩ | ⟨q1, q2, q3, q4⟩
    · have r1 : m ≤ (32 : Int) := by omega
      clear hm
      go_enter Try.func9, Try.ntmps9
      go_wp2
      go_ret
      exact ⟨rfl, rfl⟩
    · have r1 : ¬ m ≤ (32 : Int) := by omega
      have r2 : (127 : Int) ≤ m := by omega
      clear hm
      go_enter Try.func9, Try.ntmps9
      go_wp2
      go_ret
      exact ⟨rfl, rfl⟩
    · have r1 : ¬ m ≤ (32 : Int) := by omega
      have r2 : ¬ (127 : Int) ≤ m := by omega
      have r3 : (m == 35) = true := by simpa using q3
      clear hm q3
      go_enter Try.func9, Try.ntmps9
      go_wp2
      go_ret
      exact ⟨rfl, rfl⟩
    · have r1 : ¬ m ≤ (32 : Int) := by omega
      have r2 : ¬ (127 : Int) ≤ m := by omega
      have r3 : (m == 35) = false := by simpa using q3
      have r4 : (m == 37) = true := by simpa using q4
      clear hm q3 q4
      go_enter Try.func9, Try.ntmps9
      go_wp2
      go_ret
      exact ⟨rfl, rfl⟩

/-- zzBytes_FnEscapeCanonicalAndDecodesBack. -/
theorem bytes_any (p : ByteArray) (w : World) (hp : p.size ≤ maxLen) :
    Calls Try.prog 6 #[.string p] w fun e w' => e = .returned (.bool (decide (p.size ≤ 1048576))) ∧ w' = w := by
  unfold maxLen at hp
  by_cases h : (1048576 : Int) < p.size
  · go_enter Try.func6, Try.ntmps6
    go_wp2
    go_ret
    exact ⟨ret_bool (decide_eq_false (by omega)).symm, rfl⟩
  · go_enter Try.func6, Try.ntmps6
    go_wp2
    go_ret
    exact ⟨ret_bool (decide_eq_true (by omega)).symm, rfl⟩

/-- ZZEscape. -/
theorem zesc_any (s : ByteArray) (w : World) (hs : s.size ≤ 1048576) :
    Calls Try.prog 7 #[.string s] w fun e w' => ∃ T : ByteArray, e = .returned (.string T) ∧ Hid (T.data.toList = escL s.data.toList) ∧ Below w.heap.size w w' := by
  go_enter Try.func7, Try.ntmps7
  go_wp2_with (go_at_call 16; refine (esc_any s _ hs).mono ?_; rintro e w' ⟨rfl, hb⟩)
  go_ret
  exact ⟨_, rfl, rfl, hb⟩

/-! ### the plain law: what stands in the escaped text at the places of a byte -/
theorem escB_pos (c : UInt8) : 0 < (escB c).length := by unfold escB; split <;> simp
theorem split_at (s : ByteArray) (k : Nat) (h : k < s.size) : escL s.data.toList = escL (s.data.toList.take k) ++ (escB s[k] ++ escL (s.data.toList.drop (k + 1))) := by
  have hk : k < s.data.toList.length := by rw [← Lib.size_eq]; exact h
  conv => lhs; rw [← List.take_append_drop k s.data.toList, List.drop_eq_getElem_cons hk]
  simp only [escL, List.flatMap_append, List.flatMap_cons]
  rfl
theorem len_end (s : ByteArray) (k : Nat) (hk : k ≤ s.size) (h : (escL s.data.toList).length ≤ (escL (s.data.toList.take k)).length) : k = s.size := by
  by_cases hlt : k < s.size
  · have e := split_at s k hlt
    have e2 := congrArg List.length e
    rw [List.length_append, List.length_append] at e2
    have := escB_pos s[k]
    omega
  · omega
theorem at_T (T : ByteArray) (a b r : List UInt8) (j : Nat) (x : UInt8) (hT : T.data.toList = a ++ (b ++ r)) (hx : b[j]? = some x) : ∃ h : a.length + j < T.size, (T[a.length + j]'h).toNat = x.toNat := by
  have hj : j < b.length := (List.getElem?_eq_some_iff.1 hx).1
  have hs : T.size = (a ++ (b ++ r)).length := by rw [Lib.size_eq, hT]
  have h : a.length + j < T.size := by rw [hs]; simp only [List.length_append]; omega
  refine ⟨h, ?_⟩
  have e : T.data.toList[a.length + j]? = some (T[a.length + j]'h) := by
    have : a.length + j < T.data.toList.length := by rw [← Lib.size_eq]; exact h
    rw [List.getElem?_eq_getElem this]
    rfl
  rw [hT, List.getElem?_append_right (by omega), show a.length + j - a.length = j from by omega, List.getElem?_append_left hj, hx] at e
  injection e with e
  rw [e]
end Go.Proofs.Qxb6601704a.Esc
