import Derived.Test.Qxb6601646aNwSmall
namespace Go.Proofs.Qxb6601646a.Nw
open Go.RowKit Go.Proofs.Qxb6601646a.Tw Go.Proofs.Qxb6601646a.Np

theorem own_drewN {w : World} {B s : Nat} {t : TypeId} {v : Value} {n : Nat} {xs : List Value} (h : w.ownsRow B t s v n xs) (q : Nat) : (w.drewN q).ownsRow B t s v n xs := by
  have hh : (w.drewN q).heap = w.heap := by simp
  exact ⟨h.1, by rw [hh]; exact h.2⟩
theorem below_drewN {w w' : World} {B : Nat} (h : Below B w w') (q : Nat) : Below B w (w'.drewN q) := by
  have hh : (w'.drewN q).heap = w'.heap := by simp
  exact ⟨h.os, h.tape, h.output, by rw [hh]; exact h.size, fun k hk => by rw [hh]; exact h.block k hk⟩
/-- An owned row, read. -/
theorem row_own {w : World} {B : Nat} {v : Value} {n : Nat} {s : List Nat} {a : Option Addr} {c : Nat} (h : w.ownsRow B 3 1 v n (iv s)) (hv : v = .slice a n c) (hl : s.length = n) : Row w a n (ints s) := by
  refine ⟨by rw [ints_length]; exact hl, ?_⟩
  by_cases h0 : n = 0
  · exact .inl h0
  · obtain ⟨g, cap, e, _, _⟩ := h.form (by omega)
    rw [hv] at e
    cases e
    rw [hv] at h
    have hlt : g < w.heap.size := by
      rcases h.2 with ⟨h, _⟩ | ⟨_, _, cur, h, _, h3, _⟩
      · cases h
      · cases h; exact (Array.getElem?_eq_some_iff.1 h3).1
    refine .inr ⟨g, 0, rfl, hlt, fun j hj => ?_⟩
    rw [Nat.zero_add, own_cell h j (by omega), iv_at s j (by omega), ints_getD]

/-- What the union's loop keeps. -/
structure US (A B : List Nat) (w wr : World) (ov : Value) (i j : Nat) (o : List Nat) : Prop where
  bel : Below w.heap.size w wr
  own : wr.ownsRow w.heap.size 3 1 ov o.length (iv o)
  ui : UI A B i j o
theorem us_last {A B : List Nat} {w wr : World} {oa : Option Addr} {oc i j M : Nat} {o : List Nat} (h : US A B w wr (.slice oa (M + 1) oc) i j o) (hL : o.length = M + 1) :
    ∃ g, oa = some ⟨g, 0, none⟩ ∧ w.heap.size ≤ g ∧ wr.cell? ⟨g, M, none⟩ = some (.int .i64 ((o.getD M 0 : Nat) : Int)) := by
  have ho := h.own
  rw [hL] at ho
  obtain ⟨g, cap, e, hb, _⟩ := ho.form (by omega)
  cases e
  refine ⟨g, rfl, hb, ?_⟩
  rw [own_cell ho _ (by omega), iv_at o _ (by omega)]
theorem last_get (o : List Nat) (h0 : 0 < o.length) : o.getLast? = some (o.getD (o.length - 1) 0) := by
  rw [List.getLast?_eq_getElem?]; exact getD_of (by omega) 0
theorem push_new {o : List Nat} {x : Nat} (h : o.length = 0 ∨ (0 < o.length ∧ o.getD (o.length - 1) 0 ≠ x)) : push o x = o ++ [x] := by
  unfold push
  rcases h with h | ⟨h, h2⟩
  · have : o = [] := List.eq_nil_of_length_eq_zero h
    subst this; rfl
  · rw [last_get o h, if_neg (fun e => by injection e with e; exact h2 e)]
theorem push_old {o : List Nat} {x : Nat} (h : 0 < o.length) (h2 : o.getD (o.length - 1) 0 = x) : push o x = o := by
  unfold push; rw [last_get o h, h2, if_pos rfl]
theorem us_push {A B : List Nat} {w w1 w2 : World} {ov ov2 : Value} {i j x L : Nat} {o : List Nat} (hb : Below w.heap.size w w1) (hown : w1.ownsRow w.heap.size 3 1 ov o.length (iv o)) (hL : o.length = L) (hU : UI A B i j (push o x)) (he : push o x = o ++ [x])
    (ho : w2.ownsRow w.heap.size 3 1 ov2 (L + 1) (iv o ++ [.int .i64 (x : Int)])) (hg : (w1.alloc (.cells #[.int .i64 (x : Int)] 3)).grownBy w2 ov.ownBlock) : US A B w w2 ov2 i j (o ++ [x]) := by
  refine ⟨Below.grown (hb.alloc hb.size _) hg (by have := hb.size; simp; omega) (fun k hk => own_base hown k hk), ?_, by rw [← he]; exact hU⟩
  have e1 : (o ++ [x]).length = L + 1 := by simp [hL]
  rw [e1, iv_append]; exact ho

/-- The union's answer: an owned row. -/
def URes (A B : List Nat) (w : World) (e : Ending) (w' : World) : Prop := ∃ (ov : Value) (o : List Nat), e = .returned ov ∧ Asc o ∧ (∀ y, y ∈ o ↔ y ∈ A ∨ y ∈ B) ∧ w'.ownsRow w.heap.size 3 1 ov o.length (iv o)
set_option maxHeartbeats 2000000 in
set_option maxRecDepth 100000 in
theorem union_any (a b : Option Addr) (n c m d : Nat) (A B : List Nat) (w : World) (hra : Row w a n (ints A)) (hrb : Row w b m (ints B)) (hn : n ≤ 1000000) (hm : m ≤ 1000000) (hA : Asc A) (hB : Asc B) :
    Calls Try.prog 32 #[.slice a n c, .slice b m d] w fun e w' => URes A B w e w' ∧ Below w.heap.size w w' := by
  obtain ⟨i3, hi3, hz30, hz31, hz32⟩ := info_parts info3
  have HA : Hid (Row w a n (ints A)) := hra
  have HB : Hid (Row w b m (ints B)) := hrb
  have HS : Hid (Asc A ∧ Asc B) := ⟨hA, hB⟩
  have hla := row_len hra
  have hlb := row_len hrb
  clear hra hrb hA hB
  go_enter Try.func32, Try.ntmps32
  go_wp2_with (at_make; refine wpList_make_own _ rfl _ _ 23 rfl w.heap.size 3 i3 (.int .i64 0) 1 Try.underlying23 hi3 hz30 hz31 _ _ _ (n + m) rfl rfl (by omega) (by rw [hz32]; omega) (by unfold maxLen; omega) (Nat.le_refl _) ?_; intro w1 hown1 hgrow1; have HU : Hid (US A B w w1 (.slice (some ⟨w.heap.size, 0, none⟩) 0 (n + m)) 0 0 []) := ⟨(Below.refl _ _).grown hgrow1 (Nat.le_refl _) (fun k hk => by cases hk), hown1, ui_start A B⟩; clear hown1 hgrow1)
  go_loopw [5, 6, 7] (fun ov iv jv wr => ∃ (i j : Nat) (o : List Nat), i ≤ n ∧ j ≤ m ∧ iv = .int .i64 (i : Int) ∧ jv = .int .i64 (j : Int) ∧ Hid (US A B w wr ov i j o)) (fun _ iv jv _ => n + m - (intOf iv).toNat - (intOf jv).toNat)
  case atStart => exact ⟨0, 0, [], Nat.zero_le _, Nat.zero_le _, rfl, rfl, HU⟩
  case round =>
    clear HU
    obtain ⟨i, j, o, hi, hj, rfl, rfl, HU⟩ := hrel
    obtain ⟨oa, oc, rfl⟩ := own_val HU.out.own
    generalize hLL : o.length = L at *
    have HL : Hid (o.length = L) := hLL
    clear hLL
    have hLn : L ≤ 2000000 := by have := HU.out.ui.len; have := HL.out; omega
    by_cases hjm : j < m
    · have hjm' : (j : Int) < (m : Int) := by omega
      obtain ⟨bb, boff, rfl, hbb, hbc⟩ := row_at HB.out j hjm
      have cb := (HU.out.bel.cell (p := ⟨bb, boff + j, none⟩) hbb).trans hbc
      have EB : Hid (B[j]? = some (B.getD j 0)) := getD_of (by omega) 0
      clear hbc
      generalize B.getD j 0 = y at *
      by_cases hin : i < n
      · have hin' : (i : Int) < (n : Int) := by omega
        obtain ⟨ab, aoff, rfl, hab, hac⟩ := row_at HA.out i hin
        have ca := (HU.out.bel.cell (p := ⟨ab, aoff + i, none⟩) hab).trans hac
        have EA : Hid (A[i]? = some (A.getD i 0)) := getD_of (by omega) 0
        clear hac
        generalize A.getD i 0 = x at *
        have i0 : (0 : Int) ≤ (i : Int) := by omega
        have j0 : (0 : Int) ≤ (j : Int) := by omega
        by_cases hxy : x ≤ y
        · have hxy' : (x : Int) ≤ (y : Int) := by omega
          have HN : Hid (UI A B (i + 1) j (push o x)) := ui_a HU.out.ui HS.out.1 EA.out (fun z hz => by have := EB.out; rw [hz] at this; injection this with this; omega) HS.out.2
          go_wp2_with fail
          go_quiet (fail)
          generalize nq = q at *
          have HO : Hid ((wr.drewN q).ownsRow w.heap.size 3 1 (.slice oa L oc) o.length (iv o)) := own_drewN HU.out.own q
          have HBe : Hid (Below w.heap.size w (wr.drewN q)) := below_drewN HU.out.bel q
          have hsz : w.heap.size ≤ (wr.drewN q).heap.size := HBe.out.size
          by_cases h0 : L = 0
          · subst h0
            have HP : Hid (push o x = o ++ [x]) := push_new (.inl HL.out)
            have HO2 : Hid ((wr.drewN q).ownsRow w.heap.size 3 1 (.slice oa 0 oc) 0 (iv o)) := by have := HO.out; rw [HL.out] at this; exact this
            go_wp2_with (at_builtin; refine wpList_append_lies _ rfl _ _ 23 rfl w.heap.size 3 i3 (.int .i64 0) 1 8 Try.underlying23 hi3 hz30 hz31 hz32 rfl (by decide) _ 0 _ rfl (HO2.out.alloc _) ⟨(wr.drewN q).heap.size, 0, none⟩ 1 1 [.int .i64 (x : Int)] rfl rfl (cell_one_at (by simp) _ _) (by simp [Value.oneCell']) (by omega) (by unfold maxLen; omega) (by omega) (by simp at hsz ⊢; omega) ((wr.drewN q).heap.size + 1) (by simp) ?_; intro g1 cap1 w2 hown2 hgrow hat hlt1)
            have HU2 : Hid (US A B w w2 (.slice (some ⟨g1, 0, none⟩) (0 + 1) cap1) (i + 1) (j) (o ++ [x])) := us_push HBe.out HO.out HL.out HN.out HP.out hown2 hgrow
            clear hown2 hgrow hat
            go_wp2_with fail
            go_roundw
            case rel => exact ⟨i + 1, j, _, by omega, by omega, by go_num, by go_num, HU2⟩
            case measure => simp [intOf]; omega
          · have h0' : ¬ (L : Int) = 0 := by omega
            have h0b : ((L : Int) == 0) = false := by simp; omega
            obtain ⟨M, rfl⟩ : ∃ M, L = M + 1 := ⟨L - 1, by omega⟩
            obtain ⟨g, rfl, hg, cl⟩ := us_last HU.out HL.out
            have hMM : (M : Int) < ((M + 1 : Nat) : Int) := by omega
            have M0 : (0 : Int) ≤ (M : Int) := by omega
            by_cases hl : o.getD M 0 = x
            · rw [hl] at cl
              have HP : Hid (push o x = o) := push_old (by rw [HL.out]; omega) (by rw [HL.out, Nat.add_sub_cancel]; exact hl)
              have HU2 : Hid (US A B w (wr.drewN q) (.slice (some ⟨g, 0, none⟩) (M + 1) oc) (i + 1) (j) o) := ⟨HBe.out, HO.out, by have := HN.out; rw [HP.out] at this; exact this⟩
              clear hl
              have hxx : ((x : Int) != (x : Int)) = false := by simp
              have hM1 : ((M : Int) + 1 == 0) = false := by simp; omega
              go_wp2_with fail
              go_roundw
              case rel => exact ⟨i + 1, j, _, by omega, by omega, by go_num, by go_num, HU2⟩
              case measure => simp [intOf]; omega
            · have HP : Hid (push o x = o ++ [x]) := push_new (.inr ⟨by rw [HL.out]; omega, by rw [HL.out, Nat.add_sub_cancel]; exact hl⟩)
              have hl' : ¬ ((o.getD M 0 : Nat) : Int) = (x : Int) := by omega
              have HO2 : Hid ((wr.drewN q).ownsRow w.heap.size 3 1 (.slice (some ⟨g, 0, none⟩) (M + 1) oc) (M + 1) (iv o)) := by have := HO.out; rw [HL.out] at this; exact this
              clear hl
              generalize o.getD M 0 = z at *
              have hzx : ((z : Int) != (x : Int)) = true := by simp; omega
              have hM1 : ((M : Int) + 1 == 0) = false := by simp; omega
              go_wp2_with (at_builtin; refine wpList_append_lies _ rfl _ _ 23 rfl w.heap.size 3 i3 (.int .i64 0) 1 8 Try.underlying23 hi3 hz30 hz31 hz32 rfl (by decide) _ (M + 1) _ rfl (HO2.out.alloc _) ⟨(wr.drewN q).heap.size, 0, none⟩ 1 1 [.int .i64 (x : Int)] rfl rfl (cell_one_at (by simp) _ _) (by simp [Value.oneCell']) (by omega) (by unfold maxLen; omega) (by omega) (by simp at hsz ⊢; omega) ((wr.drewN q).heap.size + 1) (by simp) ?_; intro g1 cap1 w2 hown2 hgrow hat hlt1)
              have HU2 : Hid (US A B w w2 (.slice (some ⟨g1, 0, none⟩) (M + 1 + 1) cap1) (i + 1) (j) (o ++ [x])) := us_push HBe.out HO.out HL.out HN.out HP.out hown2 hgrow
              clear hown2 hgrow hat
              go_wp2_with fail
              go_roundw
              case rel => exact ⟨i + 1, j, _, by omega, by omega, by go_num, by go_num, HU2⟩
              case measure => simp [intOf]; omega
        · have hxy' : ¬ (x : Int) ≤ (y : Int) := by omega
          have HN : Hid (UI A B i (j + 1) (push o y)) := ui_b HU.out.ui HS.out.2 EB.out (fun z hz => by have := EA.out; rw [hz] at this; injection this with this; omega) HS.out.1
          go_wp2_with fail
          go_quiet (fail)
          generalize nq = q at *
          have HO : Hid ((wr.drewN q).ownsRow w.heap.size 3 1 (.slice oa L oc) o.length (iv o)) := own_drewN HU.out.own q
          have HBe : Hid (Below w.heap.size w (wr.drewN q)) := below_drewN HU.out.bel q
          have hsz : w.heap.size ≤ (wr.drewN q).heap.size := HBe.out.size
          by_cases h0 : L = 0
          · subst h0
            have HP : Hid (push o y = o ++ [y]) := push_new (.inl HL.out)
            have HO2 : Hid ((wr.drewN q).ownsRow w.heap.size 3 1 (.slice oa 0 oc) 0 (iv o)) := by have := HO.out; rw [HL.out] at this; exact this
            go_wp2_with (at_builtin; refine wpList_append_lies _ rfl _ _ 23 rfl w.heap.size 3 i3 (.int .i64 0) 1 8 Try.underlying23 hi3 hz30 hz31 hz32 rfl (by decide) _ 0 _ rfl (HO2.out.alloc _) ⟨(wr.drewN q).heap.size, 0, none⟩ 1 1 [.int .i64 (y : Int)] rfl rfl (cell_one_at (by simp) _ _) (by simp [Value.oneCell']) (by omega) (by unfold maxLen; omega) (by omega) (by simp at hsz ⊢; omega) ((wr.drewN q).heap.size + 1) (by simp) ?_; intro g1 cap1 w2 hown2 hgrow hat hlt1)
            have HU2 : Hid (US A B w w2 (.slice (some ⟨g1, 0, none⟩) (0 + 1) cap1) (i) (j + 1) (o ++ [y])) := us_push HBe.out HO.out HL.out HN.out HP.out hown2 hgrow
            clear hown2 hgrow hat
            go_wp2_with fail
            go_roundw
            case rel => exact ⟨i, j + 1, _, by omega, by omega, by go_num, by go_num, HU2⟩
            case measure => simp [intOf]; omega
          · have h0' : ¬ (L : Int) = 0 := by omega
            have h0b : ((L : Int) == 0) = false := by simp; omega
            obtain ⟨M, rfl⟩ : ∃ M, L = M + 1 := ⟨L - 1, by omega⟩
            obtain ⟨g, rfl, hg, cl⟩ := us_last HU.out HL.out
            have hMM : (M : Int) < ((M + 1 : Nat) : Int) := by omega
            have M0 : (0 : Int) ≤ (M : Int) := by omega
            by_cases hl : o.getD M 0 = y
            · rw [hl] at cl
              have HP : Hid (push o y = o) := push_old (by rw [HL.out]; omega) (by rw [HL.out, Nat.add_sub_cancel]; exact hl)
              have HU2 : Hid (US A B w (wr.drewN q) (.slice (some ⟨g, 0, none⟩) (M + 1) oc) (i) (j + 1) o) := ⟨HBe.out, HO.out, by have := HN.out; rw [HP.out] at this; exact this⟩
              clear hl
              have hxx : ((y : Int) != (y : Int)) = false := by simp
              have hM1 : ((M : Int) + 1 == 0) = false := by simp; omega
              go_wp2_with fail
              go_roundw
              case rel => exact ⟨i, j + 1, _, by omega, by omega, by go_num, by go_num, HU2⟩
              case measure => simp [intOf]; omega
            · have HP : Hid (push o y = o ++ [y]) := push_new (.inr ⟨by rw [HL.out]; omega, by rw [HL.out, Nat.add_sub_cancel]; exact hl⟩)
              have hl' : ¬ ((o.getD M 0 : Nat) : Int) = (y : Int) := by omega
              have HO2 : Hid ((wr.drewN q).ownsRow w.heap.size 3 1 (.slice (some ⟨g, 0, none⟩) (M + 1) oc) (M + 1) (iv o)) := by have := HO.out; rw [HL.out] at this; exact this
              clear hl
              generalize o.getD M 0 = z at *
              have hzx : ((z : Int) != (y : Int)) = true := by simp; omega
              have hM1 : ((M : Int) + 1 == 0) = false := by simp; omega
              go_wp2_with (at_builtin; refine wpList_append_lies _ rfl _ _ 23 rfl w.heap.size 3 i3 (.int .i64 0) 1 8 Try.underlying23 hi3 hz30 hz31 hz32 rfl (by decide) _ (M + 1) _ rfl (HO2.out.alloc _) ⟨(wr.drewN q).heap.size, 0, none⟩ 1 1 [.int .i64 (y : Int)] rfl rfl (cell_one_at (by simp) _ _) (by simp [Value.oneCell']) (by omega) (by unfold maxLen; omega) (by omega) (by simp at hsz ⊢; omega) ((wr.drewN q).heap.size + 1) (by simp) ?_; intro g1 cap1 w2 hown2 hgrow hat hlt1)
              have HU2 : Hid (US A B w w2 (.slice (some ⟨g1, 0, none⟩) (M + 1 + 1) cap1) (i) (j + 1) (o ++ [y])) := us_push HBe.out HO.out HL.out HN.out HP.out hown2 hgrow
              clear hown2 hgrow hat
              go_wp2_with fail
              go_roundw
              case rel => exact ⟨i, j + 1, _, by omega, by omega, by go_num, by go_num, HU2⟩
              case measure => simp [intOf]; omega
      · have hin' : ¬ (i : Int) < (n : Int) := by omega
        have hin2 : decide ((i : Int) < (n : Int)) = false := by simp; omega
        have hin3 : decide (i < n) = false := by simp; omega
        have hjm3 : decide (m ≤ j) = false := by simp; omega
        have hjm4 : decide ((m : Int) ≤ (j : Int)) = false := by simp; omega
        have HN : Hid (UI A B i (j + 1) (push o y)) := ui_b HU.out.ui HS.out.2 EB.out (fun z hz => by have := (List.getElem?_eq_some_iff.1 hz).1; omega) HS.out.1
        have j0 : (0 : Int) ≤ (j : Int) := by omega
        go_wp2_with fail
        go_quiet (fail)
        generalize nq = q at *
        have HO : Hid ((wr.drewN q).ownsRow w.heap.size 3 1 (.slice oa L oc) o.length (iv o)) := own_drewN HU.out.own q
        have HBe : Hid (Below w.heap.size w (wr.drewN q)) := below_drewN HU.out.bel q
        have hsz : w.heap.size ≤ (wr.drewN q).heap.size := HBe.out.size
        by_cases h0 : L = 0
        · subst h0
          have HP : Hid (push o y = o ++ [y]) := push_new (.inl HL.out)
          have HO2 : Hid ((wr.drewN q).ownsRow w.heap.size 3 1 (.slice oa 0 oc) 0 (iv o)) := by have := HO.out; rw [HL.out] at this; exact this
          go_wp2_with (at_builtin; refine wpList_append_lies _ rfl _ _ 23 rfl w.heap.size 3 i3 (.int .i64 0) 1 8 Try.underlying23 hi3 hz30 hz31 hz32 rfl (by decide) _ 0 _ rfl (HO2.out.alloc _) ⟨(wr.drewN q).heap.size, 0, none⟩ 1 1 [.int .i64 (y : Int)] rfl rfl (cell_one_at (by simp) _ _) (by simp [Value.oneCell']) (by omega) (by unfold maxLen; omega) (by omega) (by simp at hsz ⊢; omega) ((wr.drewN q).heap.size + 1) (by simp) ?_; intro g1 cap1 w2 hown2 hgrow hat hlt1)
          have HU2 : Hid (US A B w w2 (.slice (some ⟨g1, 0, none⟩) (0 + 1) cap1) (i) (j + 1) (o ++ [y])) := us_push HBe.out HO.out HL.out HN.out HP.out hown2 hgrow
          clear hown2 hgrow hat
          go_wp2_with fail
          go_roundw
          case rel => exact ⟨i, j + 1, _, by omega, by omega, by go_num, by go_num, HU2⟩
          case measure => simp [intOf]; omega
        · have h0' : ¬ (L : Int) = 0 := by omega
          have h0b : ((L : Int) == 0) = false := by simp; omega
          obtain ⟨M, rfl⟩ : ∃ M, L = M + 1 := ⟨L - 1, by omega⟩
          obtain ⟨g, rfl, hg, cl⟩ := us_last HU.out HL.out
          have hMM : (M : Int) < ((M + 1 : Nat) : Int) := by omega
          have M0 : (0 : Int) ≤ (M : Int) := by omega
          by_cases hl : o.getD M 0 = y
          · rw [hl] at cl
            have HP : Hid (push o y = o) := push_old (by rw [HL.out]; omega) (by rw [HL.out, Nat.add_sub_cancel]; exact hl)
            have HU2 : Hid (US A B w (wr.drewN q) (.slice (some ⟨g, 0, none⟩) (M + 1) oc) (i) (j + 1) o) := ⟨HBe.out, HO.out, by have := HN.out; rw [HP.out] at this; exact this⟩
            clear hl
            have hxx : ((y : Int) != (y : Int)) = false := by simp
            have hM1 : ((M : Int) + 1 == 0) = false := by simp; omega
            go_wp2_with fail
            go_roundw
            case rel => exact ⟨i, j + 1, _, by omega, by omega, by go_num, by go_num, HU2⟩
            case measure => simp [intOf]; omega
          · have HP : Hid (push o y = o ++ [y]) := push_new (.inr ⟨by rw [HL.out]; omega, by rw [HL.out, Nat.add_sub_cancel]; exact hl⟩)
            have hl' : ¬ ((o.getD M 0 : Nat) : Int) = (y : Int) := by omega
            have HO2 : Hid ((wr.drewN q).ownsRow w.heap.size 3 1 (.slice (some ⟨g, 0, none⟩) (M + 1) oc) (M + 1) (iv o)) := by have := HO.out; rw [HL.out] at this; exact this
            clear hl
            generalize o.getD M 0 = z at *
            have hzx : ((z : Int) != (y : Int)) = true := by simp; omega
            have hM1 : ((M : Int) + 1 == 0) = false := by simp; omega
            go_wp2_with (at_builtin; refine wpList_append_lies _ rfl _ _ 23 rfl w.heap.size 3 i3 (.int .i64 0) 1 8 Try.underlying23 hi3 hz30 hz31 hz32 rfl (by decide) _ (M + 1) _ rfl (HO2.out.alloc _) ⟨(wr.drewN q).heap.size, 0, none⟩ 1 1 [.int .i64 (y : Int)] rfl rfl (cell_one_at (by simp) _ _) (by simp [Value.oneCell']) (by omega) (by unfold maxLen; omega) (by omega) (by simp at hsz ⊢; omega) ((wr.drewN q).heap.size + 1) (by simp) ?_; intro g1 cap1 w2 hown2 hgrow hat hlt1)
            have HU2 : Hid (US A B w w2 (.slice (some ⟨g1, 0, none⟩) (M + 1 + 1) cap1) (i) (j + 1) (o ++ [y])) := us_push HBe.out HO.out HL.out HN.out HP.out hown2 hgrow
            clear hown2 hgrow hat
            go_wp2_with fail
            go_roundw
            case rel => exact ⟨i, j + 1, _, by omega, by omega, by go_num, by go_num, HU2⟩
            case measure => simp [intOf]; omega
    · have hjm' : ¬ (j : Int) < (m : Int) := by omega
      have hjm2 : (m : Int) ≤ (j : Int) := by omega
      by_cases hin : i < n
      · have hin' : (i : Int) < (n : Int) := by omega
        obtain ⟨ab, aoff, rfl, hab, hac⟩ := row_at HA.out i hin
        have ca := (HU.out.bel.cell (p := ⟨ab, aoff + i, none⟩) hab).trans hac
        have EA : Hid (A[i]? = some (A.getD i 0)) := getD_of (by omega) 0
        clear hac
        generalize A.getD i 0 = x at *
        have i0 : (0 : Int) ≤ (i : Int) := by omega
        have HN : Hid (UI A B (i + 1) j (push o x)) := ui_a HU.out.ui HS.out.1 EA.out (fun z hz => by have := (List.getElem?_eq_some_iff.1 hz).1; omega) HS.out.2
        go_wp2_with fail
        go_quiet (fail)
        generalize nq = q at *
        have HO : Hid ((wr.drewN q).ownsRow w.heap.size 3 1 (.slice oa L oc) o.length (iv o)) := own_drewN HU.out.own q
        have HBe : Hid (Below w.heap.size w (wr.drewN q)) := below_drewN HU.out.bel q
        have hsz : w.heap.size ≤ (wr.drewN q).heap.size := HBe.out.size
        by_cases h0 : L = 0
        · subst h0
          have HP : Hid (push o x = o ++ [x]) := push_new (.inl HL.out)
          have HO2 : Hid ((wr.drewN q).ownsRow w.heap.size 3 1 (.slice oa 0 oc) 0 (iv o)) := by have := HO.out; rw [HL.out] at this; exact this
          go_wp2_with (at_builtin; refine wpList_append_lies _ rfl _ _ 23 rfl w.heap.size 3 i3 (.int .i64 0) 1 8 Try.underlying23 hi3 hz30 hz31 hz32 rfl (by decide) _ 0 _ rfl (HO2.out.alloc _) ⟨(wr.drewN q).heap.size, 0, none⟩ 1 1 [.int .i64 (x : Int)] rfl rfl (cell_one_at (by simp) _ _) (by simp [Value.oneCell']) (by omega) (by unfold maxLen; omega) (by omega) (by simp at hsz ⊢; omega) ((wr.drewN q).heap.size + 1) (by simp) ?_; intro g1 cap1 w2 hown2 hgrow hat hlt1)
          have HU2 : Hid (US A B w w2 (.slice (some ⟨g1, 0, none⟩) (0 + 1) cap1) (i + 1) (j) (o ++ [x])) := us_push HBe.out HO.out HL.out HN.out HP.out hown2 hgrow
          clear hown2 hgrow hat
          go_wp2_with fail
          go_roundw
          case rel => exact ⟨i + 1, j, _, by omega, by omega, by go_num, by go_num, HU2⟩
          case measure => simp [intOf]; omega
        · have h0' : ¬ (L : Int) = 0 := by omega
          have h0b : ((L : Int) == 0) = false := by simp; omega
          obtain ⟨M, rfl⟩ : ∃ M, L = M + 1 := ⟨L - 1, by omega⟩
          obtain ⟨g, rfl, hg, cl⟩ := us_last HU.out HL.out
          have hMM : (M : Int) < ((M + 1 : Nat) : Int) := by omega
          have M0 : (0 : Int) ≤ (M : Int) := by omega
          by_cases hl : o.getD M 0 = x
          · rw [hl] at cl
            have HP : Hid (push o x = o) := push_old (by rw [HL.out]; omega) (by rw [HL.out, Nat.add_sub_cancel]; exact hl)
            have HU2 : Hid (US A B w (wr.drewN q) (.slice (some ⟨g, 0, none⟩) (M + 1) oc) (i + 1) (j) o) := ⟨HBe.out, HO.out, by have := HN.out; rw [HP.out] at this; exact this⟩
            clear hl
            have hxx : ((x : Int) != (x : Int)) = false := by simp
            have hM1 : ((M : Int) + 1 == 0) = false := by simp; omega
            go_wp2_with fail
            go_roundw
            case rel => exact ⟨i + 1, j, _, by omega, by omega, by go_num, by go_num, HU2⟩
            case measure => simp [intOf]; omega
          · have HP : Hid (push o x = o ++ [x]) := push_new (.inr ⟨by rw [HL.out]; omega, by rw [HL.out, Nat.add_sub_cancel]; exact hl⟩)
            have hl' : ¬ ((o.getD M 0 : Nat) : Int) = (x : Int) := by omega
            have HO2 : Hid ((wr.drewN q).ownsRow w.heap.size 3 1 (.slice (some ⟨g, 0, none⟩) (M + 1) oc) (M + 1) (iv o)) := by have := HO.out; rw [HL.out] at this; exact this
            clear hl
            generalize o.getD M 0 = z at *
            have hzx : ((z : Int) != (x : Int)) = true := by simp; omega
            have hM1 : ((M : Int) + 1 == 0) = false := by simp; omega
            go_wp2_with (at_builtin; refine wpList_append_lies _ rfl _ _ 23 rfl w.heap.size 3 i3 (.int .i64 0) 1 8 Try.underlying23 hi3 hz30 hz31 hz32 rfl (by decide) _ (M + 1) _ rfl (HO2.out.alloc _) ⟨(wr.drewN q).heap.size, 0, none⟩ 1 1 [.int .i64 (x : Int)] rfl rfl (cell_one_at (by simp) _ _) (by simp [Value.oneCell']) (by omega) (by unfold maxLen; omega) (by omega) (by simp at hsz ⊢; omega) ((wr.drewN q).heap.size + 1) (by simp) ?_; intro g1 cap1 w2 hown2 hgrow hat hlt1)
            have HU2 : Hid (US A B w w2 (.slice (some ⟨g1, 0, none⟩) (M + 1 + 1) cap1) (i + 1) (j) (o ++ [x])) := us_push HBe.out HO.out HL.out HN.out HP.out hown2 hgrow
            clear hown2 hgrow hat
            go_wp2_with fail
            go_roundw
            case rel => exact ⟨i + 1, j, _, by omega, by omega, by go_num, by go_num, HU2⟩
            case measure => simp [intOf]; omega
      · have hin' : ¬ (i : Int) < (n : Int) := by omega
        have HE : Hid (Asc o ∧ ∀ y, y ∈ o ↔ y ∈ A ∨ y ∈ B) := by
          have h1 := HU.out.ui
          rw [show i = A.length from by omega, show j = B.length from by omega] at h1
          exact ui_end h1
        go_wp2_with fail
        go_ret
        exact ⟨⟨_, o, rfl, HE.out.1, HE.out.2, HU.out.own⟩, HU.out.bel⟩
end Go.Proofs.Qxb6601646a.Nw
