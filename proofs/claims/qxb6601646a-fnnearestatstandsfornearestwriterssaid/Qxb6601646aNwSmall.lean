import Derived.Test.Qxb6601646aTwMem
import Derived.Test.Qxb6601646aNpMore
namespace Go.Proofs.Qxb6601646a.Nw
open Go.RowKit Go.Proofs.Qxb6601646a.Tw Go.Proofs.Qxb6601646a.Np

theorem row_at {w : World} {a : Option Addr} {n : Nat} {s : List Nat} (h : Row w a n (ints s)) (k : Nat) (hk : k < n) :
    ∃ b off, a = some ⟨b, off, none⟩ ∧ b < w.heap.size ∧ w.cell? ⟨b, off + k, none⟩ = some (.int .i64 ((s.getD k 0 : Nat) : Int)) := by
  obtain ⟨b, off, e, hb, hc⟩ := h.at k hk
  rw [ints_getD] at hc
  exact ⟨b, off, e, hb, hc⟩
theorem ints_length (s : List Nat) : (ints s).length = s.length := by simp [ints]
theorem row_len {w : World} {a : Option Addr} {n : Nat} {s : List Nat} (h : Row w a n (ints s)) : s.length = n := by rw [← ints_length]; exact h.1

/-- nearFind finds what is there. -/
theorem find_at {s : List Nat} {x l : Nat} (hs : Asc s) (hx : x ∈ s) (h1 : ∀ i, i < l → s.getD i 0 < x) (h2 : ∀ i, l ≤ i → i < s.length → x ≤ s.getD i 0) : l < s.length ∧ s.getD l 0 = x := by
  obtain ⟨i, hi⟩ := List.getElem?_of_mem hx
  have hl := (List.getElem?_eq_some_iff.1 hi).1
  have e : s.getD i 0 = x := by rw [List.getD_eq_getElem?_getD, hi]; rfl
  have hil : l ≤ i := by
    by_cases hc : l ≤ i
    · exact hc
    · have := h1 i (by omega); omega
  refine ⟨by omega, ?_⟩
  by_cases hc : l = i
  · rw [hc]; exact e
  · have h3 := h2 l (Nat.le_refl _) (by omega)
    have h4 : s[l]? = some (s.getD l 0) := getD_of (by omega) 0
    have := asc_lt hs h4 hi (by omega)
    omega
theorem find_any (a : Option Addr) (n c x : Nat) (s : List Nat) (w : World) (hr : Row w a n (ints s)) (hn : n ≤ 1000000) (hs : Asc s) (hx : x ∈ s) :
    Calls Try.prog 33 #[.slice a n c, .int .i64 (x : Int)] w fun e w' => (∃ i : Nat, s[i]? = some x ∧ e = .returned (.int .i64 (i : Int))) ∧ w' = w := by
  have HR : Hid (Row w a n (ints s)) := hr
  have HX : Hid (Asc s ∧ x ∈ s) := ⟨hs, hx⟩
  clear hr hs hx
  go_enter Try.func33, Try.ntmps33
  go_wp2_with fail
  go_loop [5, 6] (fun lo hi => ∃ (l h : Nat), lo = .int .i64 (l : Int) ∧ hi = .int .i64 (h : Int) ∧ l ≤ h ∧ h ≤ n ∧ Hid (∀ i, i < l → s.getD i 0 < x) ∧ Hid (∀ i, h ≤ i → i < s.length → x ≤ s.getD i 0)) (fun lo hi => (intOf hi).toNat - (intOf lo).toNat)
  case atStart => exact ⟨0, n, rfl, rfl, Nat.zero_le _, Nat.le_refl _, fun i hi => by omega, fun i h1 h2 => by have := row_len HR.out; omega⟩
  case round =>
    obtain ⟨l, h, rfl, rfl, hlh, hhn, H1, H2⟩ := hrel
    by_cases hlt : l < h
    · have hlt' : (l : Int) < (h : Int) := by omega
      obtain ⟨m, hm⟩ : ∃ m, l + (h - l) / 2 = m := ⟨_, rfl⟩
      have hm1 : l ≤ m := by omega
      have hm2 : m < h := by omega
      obtain ⟨b, off, rfl, hb, hc⟩ := row_at HR.out m (by omega)
      have hq : ((h : Int) - (l : Int)).tdiv 2 = ((m - l : Nat) : Int) := by
        rw [Int.tdiv_eq_ediv_of_nonneg (by omega)]; omega
      have hm' : (m : Int) < (n : Int) := by omega
      have ha : (l : Int) + ((m - l : Nat) : Int) = (m : Int) := by omega
      have hlen := row_len HR.out
      have HS : Hid (∀ i, i < m → s.getD i 0 < s.getD m 0) := fun i hi => asc_lt HX.out.1 (getD_of (by omega) 0) (getD_of (by omega) 0) hi
      have HS2 : Hid (∀ i, m ≤ i → i < s.length → s.getD m 0 ≤ s.getD i 0) := fun i h1 h2 => by
        by_cases e : m = i
        · rw [e]; exact Nat.le_refl _
        · exact Nat.le_of_lt (asc_lt HX.out.1 (getD_of (by omega) 0) (getD_of h2 0) (by omega))
      clear hm
      generalize hy : s.getD m 0 = y at *
      by_cases hyx : y < x
      · have hyx' : (y : Int) < (x : Int) := by omega
        go_wp2_with fail
        go_round
        case rel => exact ⟨m + 1, h, by go_num, rfl, by omega, hhn, fun i hi => by by_cases e : i = m; · { subst e; omega }; · { have := HS.out i (by omega); omega }, H2⟩
        case measure => simp [intOf]; omega
      · have hyx' : ¬ (y : Int) < (x : Int) := by omega
        go_wp2_with fail
        go_round
        case rel => exact ⟨l, m, rfl, by go_num, by omega, by omega, H1, fun i h1 h2 => by have := HS2.out i h1 h2; omega⟩
        case measure => simp [intOf]; omega
    · have e : l = h := by omega
      subst e
      have hlt' : ¬ (l : Int) < (l : Int) := by omega
      obtain ⟨f1, f2⟩ := find_at HX.out.1 HX.out.2 H1.out H2.out
      have hlen := row_len HR.out
      obtain ⟨b, off, rfl, hb, hc⟩ := row_at HR.out l (by omega)
      rw [f2] at hc
      have f1' : (l : Int) < (n : Int) := by omega
      have HF : Hid (s[l]? = some x) := by have := getD_of f1 0; rw [f2] at this; exact this
      clear f2
      go_wp2_with fail
      go_ret
      exact ⟨⟨l, HF.out, rfl⟩, rfl⟩

theorem stands_any (x : Int) (a : Option Addr) (n c n0 t : Nat) (s : List Nat) (w : World) (hr : Row w a n (ints s)) (hn : n ≤ 1000000) :
    Calls Try.prog 14 #[.int .i64 x, .slice a n c, .int .i64 (n0 : Int), .int .i64 (t : Int)] w fun e w' => e = .returned (.bool (standsFor x s n0 t)) ∧ w' = w := by
  have hl := row_len hr
  match s, hl with
  | [], hl =>
    have : n = 0 := hl.symm
    subst this
    clear hr hl
    go_enter Try.func14, Try.ntmps14
    go_wp2_with fail
    go_ret
    exact ⟨ret_bool rfl, rfl⟩
  | [y], hl =>
    have : n = 1 := hl.symm
    subst this
    obtain ⟨b, off, rfl, hb, hc⟩ := row_at hr 0 (by omega)
    have hc' : w.cell? ⟨b, off, none⟩ = some (.int .i64 (y : Int)) := hc
    clear hr hl hc
    go_enter Try.func14, Try.ntmps14
    go_wp2_with fail
    go_ret
    exact ⟨ret_bool rfl, rfl⟩
  | y :: z :: s, hl =>
    have h0 : ¬ (n : Int) = 0 := by simp at hl; omega
    have h1 : ¬ (n : Int) = 1 := by simp at hl; omega
    clear hr hl
    by_cases hx : (n0 : Int) ≤ x
    · go_enter Try.func14, Try.ntmps14
      go_wp2_with fail
      go_ret
      exact ⟨ret_bool (by simp [standsFor, hx]), rfl⟩
    · go_enter Try.func14, Try.ntmps14
      go_wp2_with fail
      go_ret
      exact ⟨ret_bool (by simp [standsFor]; omega), rfl⟩
end Go.Proofs.Qxb6601646a.Nw
