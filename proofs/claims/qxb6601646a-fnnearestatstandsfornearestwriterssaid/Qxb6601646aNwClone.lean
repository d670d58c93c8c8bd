import Derived.Test.Qxb6601646aNwJunc
namespace Go.Proofs.Qxb6601646a.Nw
open Go.RowKit Go.Proofs.Qxb6601646a.Tw Go.Proofs.Qxb6601646a.Np

theorem own_of_arr {w : World} {B g n : Nat} {t : TypeId} {xs : List Value} (h : Arr w g t xs) (hl : xs.length = n) (hB : B ≤ g) (hn : n ≤ 9223372036854775807) : w.ownsRow B t 1 (.slice (some ⟨g, 0, none⟩) n n) n xs :=
  ⟨by omega, .inr ⟨g, n, xs.toArray, rfl, hB, h, Nat.le_refl _, by unfold maxLen; omega, by simp [hl], by rw [Nat.mul_one]; show xs.take n = xs; exact List.take_of_length_le (by omega)⟩⟩
/-- nearCloneInts' answer. -/
def CRes (w : World) (n : Nat) (l : List Int) (v : Value) (w' : World) : Prop :=
  (v = nilv ∧ n = 0 ∧ l = [] ∧ w.grownBy w' none) ∨ (v = .slice (some ⟨w.heap.size, 0, none⟩) n n ∧ l.length = n ∧ Arr w' w.heap.size 3 (zv l) ∧ w.grownBy w' none)
theorem CRes.own {w w' : World} {n B : Nat} {l : List Int} {v : Value} (h : CRes w n l v w') (hn : n ≤ 1048576) (hB : B ≤ w.heap.size) : w'.ownsRow B 3 1 v n (zv l) ∧ l.length = n := by
  rcases h with ⟨rfl, rfl, rfl, _⟩ | ⟨rfl, hl, ha, _⟩
  · exact ⟨⟨rfl, .inl ⟨rfl, rfl⟩⟩, rfl⟩
  · exact ⟨own_of_arr ha (by rw [zv_length]; exact hl) hB (by omega), hl⟩
theorem CRes.grown {w w' : World} {n : Nat} {l : List Int} {v : Value} (h : CRes w n l v w') : w.grownBy w' none := by
  rcases h with ⟨_, _, _, h⟩ | ⟨_, _, _, h⟩ <;> exact h
theorem CRes.at {w w' : World} {n : Nat} {l : List Int} {v : Value} (h : CRes w n l v w') : ∀ g, v.ownBlock = some g → g = w.heap.size := by
  intro g hg
  rcases h with ⟨rfl, _⟩ | ⟨rfl, _⟩
  · cases hg
  · have e : some w.heap.size = some g := hg
    injection e with e; exact e.symm
def CPost (w : World) (n : Nat) (l : List Int) (e : Ending) (w' : World) : Prop := ∃ v, e = .returned v ∧ Hid (CRes w n l v w')
set_option maxRecDepth 100000 in
theorem clone_ints (a : Option Addr) (n c : Nat) (l : List Int) (w : World) (hr : Row w a n l) (hn : n ≤ 1048576) :
    Calls Try.prog 11 #[.slice a n c] w (CPost w n l) := by
  obtain ⟨i3, hi3, hz30, hz31, hz32⟩ := info_parts info3
  have heq := fun (wx : World) (a : Option Addr) (n c : Nat) => Lib.run_eql_slice_nil (P := Try.prog) wx 23 3 a n c 0 0 Try.underlying23
  have HR : Hid (Row w a n l) := hr
  clear hr
  cases a with
  | none =>
    have h0 : n = 0 := by
      rcases HR.out.2 with h | ⟨b, off, h, _⟩
      · exact h
      · cases h
    have hl : l = [] := List.eq_nil_of_length_eq_zero (by rw [HR.out.1]; exact h0)
    go_enter Try.func11, Try.ntmps11
    go_wp2_with fail
    go_ret
    exact ⟨nilv, rfl, .inl ⟨rfl, h0, hl, ⟨rfl, rfl, rfl, Nat.le_refl _, fun _ _ _ => rfl⟩⟩⟩
  | some ad =>
    go_enter Try.func11, Try.ntmps11
    go_wp2_with (at_make; refine wpList_make_full _ rfl _ _ 23 rfl w.heap.size 3 i3 (.int .i64 0) 1 Try.underlying23 hi3 hz30 hz31 _ _ _ _ n rfl rfl rfl rfl (by rw [hz32]; omega) (by unfold maxLen; omega) (by omega) ?_; intro w1 hown1 hgrow1)
    obtain ⟨w2, hcp, HA, HG⟩ := copy_ints (c := c) HR.out hown1 hgrow1
    clear hown1 hgrow1
    rw [hcp]
    clear hcp
    go_wp2_with fail
    go_ret
    exact ⟨_, rfl, .inr ⟨rfl, HR.out.1, HA.out, HG.out⟩⟩

/-! ### rows cloned one after another -/
def part (R : List (List Int)) (i n : Nat) : List (List Int) := (List.range n).map fun j => if j < i then R.getD j [] else []
theorem part_get (R : List (List Int)) (i n j : Nat) : (part R i n).getD j [] = if j < n ∧ j < i then R.getD j [] else [] := by
  unfold part
  rw [List.getD_eq_getElem?_getD, List.getElem?_map]
  by_cases h : j < n
  · rw [List.getElem?_range h]
    by_cases h2 : j < i
    · rw [if_pos ⟨h, h2⟩]
      show (if j < i then R.getD j [] else []) = _
      rw [if_pos h2]
    · rw [if_neg (fun e => h2 e.2)]
      show (if j < i then R.getD j [] else []) = _
      rw [if_neg h2]
  · rw [if_neg (fun e => h e.1), List.getElem?_eq_none (by simp; omega)]; rfl
theorem part_length (R : List (List Int)) (i n : Nat) : (part R i n).length = n := by simp [part]
theorem part_full (R : List (List Int)) (n : Nat) (hl : R.length = n) : part R n n = R := by
  subst hl
  refine List.ext_getElem? fun j => ?_
  unfold part
  rw [List.getElem?_map]
  by_cases h : j < R.length
  · rw [List.getElem?_range h, getD_of h []]
    show some (if j < R.length then R.getD j [] else []) = _
    rw [if_pos h]
  · rw [List.getElem?_eq_none (by simp; omega), List.getElem?_eq_none (by omega)]; rfl
theorem rows_start (w : World) (B nb n : Nat) (R : List (List Int)) : Rows w B nb (List.replicate n nilv) (part R 0 n) := by
  have e : ∀ i, (List.replicate n nilv).getD i nilv = nilv := fun i => by
    rw [List.getD_eq_getElem?_getD, List.getElem?_replicate]
    split <;> rfl
  refine ⟨by rw [part_length]; simp, fun i => ?_, fun i j g _ hg => ?_, fun i g hg => ?_⟩
  · rw [e, part_get, if_neg (by omega)]
    exact ⟨rfl, .inl ⟨rfl, rfl⟩⟩
  · rw [e] at hg; cases hg
  · rw [e] at hg; cases hg
/-- Row i is laid. -/
theorem rows_lay {w w2 : World} {B ob i n len : Nat} {rv : List Value} {R : List (List Int)} {v : Value} (h : Rows w B ob rv (part R i n)) (hi : i < n) (hc : CRes w len (R.getD i []) v w2) (hlen : len ≤ 1048576) (hB : B ≤ w.heap.size) (hob : ob < w.heap.size) : Rows (w2.setCell ⟨ob, i, none⟩ v) B ob (rv.set i v) (part R (i + 1) n) := by
  have hl := h.len
  rw [part_length] at hl
  obtain ⟨ho, hlo⟩ := hc.own hlen hB
  have hlt : ∀ j g, (rv.getD j nilv).ownBlock = some g → g < w.heap.size := fun j g hg => own_lt (h.own j) g hg
  have hvb : ∀ g, v.ownBlock = some g → g = w.heap.size := hc.at
  refine ⟨by rw [List.length_set, part_length]; exact hl, fun j => ?_, fun j k g hjk => ?_, fun j g => ?_⟩
  · rw [getD_set _ _ _ (by omega), part_get]
    by_cases e : j = i
    · subst e
      rw [if_pos rfl, if_pos ⟨hi, by omega⟩]
      have := ownsRow_setCell_other (a := ⟨ob, j, none⟩) ho (fun e => by have h9 : ob = w.heap.size := hvb _ e; omega) v
      exact own_conv this hlo.symm rfl
    · rw [if_neg e]
      have h1 := h.own j
      rw [part_get] at h1
      have h2 : (j < n ∧ j < i) ↔ (j < n ∧ j < i + 1) := by omega
      simp only [h2] at h1
      exact ownsRow_setCell_other (own_grown h1 hc.grown (fun g _ e => by cases e)) (fun e => h.nb j ob e rfl) v
  · rw [getD_set _ _ _ (by omega), getD_set _ _ _ (by omega)]
    by_cases e : j = i
    · rw [if_pos e, if_neg (fun e2 => hjk (e.trans e2.symm))]
      intro hg hk
      have := hvb g hg
      have := hlt k g hk
      omega
    · rw [if_neg e]
      by_cases e2 : k = i
      · rw [if_pos e2]
        intro hg hk
        have := hvb g hk
        have := hlt j g hg
        omega
      · rw [if_neg e2]; exact h.dis j k g hjk
  · rw [getD_set _ _ _ (by omega)]
    by_cases e : j = i
    · rw [if_pos e]
      intro hg
      have := hvb g hg
      omega
    · rw [if_neg e]; exact h.nb j g
theorem made_nil (n : Nat) : (madeCells (Value.slice none 0 0).cells (n * 1)).toList = List.replicate n nilv := by
  rw [Nat.mul_one]; exact toList_madeCells_one _ _
/-- nearCloneSucc's answer. -/
def SRes (w : World) (n : Nat) (R : List (List Int)) (sv : Value) (rv : List Value) (w' : World) : Prop :=
  w'.ownsRow w.heap.size 23 1 sv n rv ∧ Rows w' w.heap.size w.heap.size rv R ∧ Below w.heap.size w w'
def SPost (w : World) (n : Nat) (R : List (List Int)) (e : Ending) (w' : World) : Prop := ∃ sv rv, e = .returned sv ∧ Hid (SRes w n R sv rv w')
structure CS (w wr : World) (n i : Nat) (R : List (List Int)) (rv : List Value) : Prop where
  bel : Below w.heap.size w wr
  arr : Arr wr w.heap.size 23 rv
  rows : Rows wr w.heap.size w.heap.size rv (part R i n)
set_option maxHeartbeats 1000000 in
set_option maxRecDepth 100000 in
theorem clone_succ (a : Option Addr) (n c : Nat) (R : List (List Int)) (w : World) (hr : Mat w a n R) (hn : n ≤ 1048576) (hlen : ∀ j, j < n → (R.getD j []).length ≤ 1048576) :
    Calls Try.prog 10 #[.slice a n c] w (SPost w n R) := by
  obtain ⟨i3, hi3, hz30, hz31, hz32⟩ := info_parts info23
  have heq := fun (wx : World) (a : Option Addr) (n c : Nat) => Lib.run_eql_slice_nil (P := Try.prog) wx 22 23 a n c 0 0 Try.underlying22
  have HR : Hid (Mat w a n R) := hr
  have HL : Hid (∀ j, j < n → (R.getD j []).length ≤ 1048576) := hlen
  clear hr hlen
  cases a with
  | none =>
    have h0 : n = 0 := by
      rcases HR.out.2 with h | ⟨b, off, h, _⟩
      · exact h
      · cases h
    have hl : R = [] := List.eq_nil_of_length_eq_zero (by rw [HR.out.1]; exact h0)
    have HS : Hid (SRes w n R nilv [] w) := by
      subst h0 hl
      exact ⟨⟨rfl, .inl ⟨rfl, rfl⟩⟩, rows_start w _ _ 0 [], Below.refl _ _⟩
    go_enter Try.func10, Try.ntmps10
    go_wp2_with fail
    go_ret
    exact ⟨nilv, [], rfl, HS⟩
  | some ad =>
    go_enter Try.func10, Try.ntmps10
    go_wp2_with (at_make; refine wpList_make_full _ rfl _ _ 22 rfl w.heap.size 23 i3 (.slice none 0 0) 1 Try.underlying22 hi3 hz30 hz31 _ _ _ _ n rfl rfl rfl rfl (by rw [hz32]; omega) (by unfold maxLen; omega) (by omega) ?_; intro w1 hown1 hgrow1; have HC : Hid (CS w w1 n 0 R (List.replicate n nilv)) := ⟨(Below.refl _ _).grown hgrow1 (Nat.le_refl _) (fun k hk => by cases hk), by rw [made_nil] at hown1; exact arr_of_own hown1, rows_start w1 _ _ n R⟩; clear hown1 hgrow1)
    go_loopw [4] (fun iv wr => ∃ (i : Nat) (rv : List Value), i ≤ n ∧ iv = .int .i64 (i : Int) ∧ Hid (CS w wr n i R rv)) (fun iv _ => n - (intOf iv).toNat)
    case atStart => exact ⟨0, _, Nat.zero_le _, rfl, HC⟩
    case round =>
      clear HC
      obtain ⟨i, rv, hi, rfl, HC⟩ := hrel
      by_cases hin : i < n
      · have hin' : (i : Int) < (n : Int) := by omega
        obtain ⟨b, off, e0, hb, a', l', c', hcell, _, hrow⟩ := HR.out.at i hin
        injection e0 with e0
        subst e0
        have cr := (HC.out.bel.cell (p := ⟨b, off + i, none⟩) hb).trans hcell
        have hl1 : l' ≤ 1048576 := by rw [← hrow.1]; exact HL.out i hin
        have HCl : Hid (Calls Try.prog 11 #[.slice a' l' c'] wr (CPost wr l' (R.getD i []))) := clone_ints a' l' c' _ wr (hrow.keep HC.out.bel) hl1
        clear hcell hrow
        go_wp2_with fail
        refine HCl.out.mono ?_
        rintro e w2 ⟨v, rfl, HV⟩
        have hszw : w.heap.size < wr.heap.size := HC.out.arr.lt
        have hrl : rv.length = n := by have := HC.out.rows.len; rw [part_length] at this; exact this
        have a2 : Arr w2 w.heap.size 23 rv := HC.out.arr.grown HV.out.grown (fun e => by cases e)
        have c2 : w2.cell? ⟨w.heap.size, i, none⟩ = some (rv.getD i nilv) := by rw [a2.cell i]; exact getD_of (by omega) nilv
        have f2 := a2.free i
        have HC2 : Hid (CS w (w2.setCell ⟨w.heap.size, i, none⟩ v) n (i + 1) R (rv.set i v)) := ⟨Below.setCell (Below.grown HC.out.bel HV.out.grown (by omega) (fun k hk => by cases hk)) (Nat.le_refl _) _, a2.set i v, rows_lay HC.out.rows hin HV.out hl1 (by omega) hszw⟩
        obtain ⟨va, vn, vc, rfl⟩ : ∃ va vn vc, v = .slice va vn vc := by
          rcases HV.out with ⟨rfl, _⟩ | ⟨rfl, _⟩
          · exact ⟨_, _, _, rfl⟩
          · exact ⟨_, _, _, rfl⟩
        clear HCl HV HC cr a2
        generalize rv.getD i nilv = old at *
        go_wp2_with fail
        go_roundw
        case rel => exact ⟨i + 1, _, by omega, by go_num, HC2⟩
        case measure => simp [intOf]; omega
      · have hin' : ¬ (i : Int) < (n : Int) := by omega
        have e : i = n := by omega
        have HS : Hid (SRes w n R (.slice (some ⟨w.heap.size, 0, none⟩) n n) rv wr) := by
          have h := HC.out
          rw [e] at h
          have hrl : rv.length = n := by have := h.rows.len; rw [part_length] at this; exact this
          refine ⟨own_of_arr h.arr hrl (Nat.le_refl _) (by omega), ?_, h.bel⟩
          have h2 := h.rows
          rw [part_full R n HR.out.1] at h2
          exact h2
        clear HC e
        go_wp2_with fail
        go_ret
        exact ⟨_, rv, rfl, HS⟩
end Go.Proofs.Qxb6601646a.Nw
