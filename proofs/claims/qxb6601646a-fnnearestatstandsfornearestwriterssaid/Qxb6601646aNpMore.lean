import Derived.Test.Qxb6601646aNpPlain
namespace Go.Proofs.Qxb6601646a.Np

/-! ### the graph that the junctions make -/
def addE (S : List (List Int)) (f : Nat) (t : Int) : List (List Int) := S.set f (S.getD f [] ++ [t])
def joinE (fw : Bool) (S : List (List Int)) (a b : Nat) : List (List Int) :=
  if fw then addE (addE (S ++ [[]]) a (S.length : Int)) b (S.length : Int) else addE (addE (S ++ [[]]) S.length (a : Int)) S.length (b : Int)
theorem addE_length (S : List (List Int)) (f : Nat) (t : Int) : (addE S f t).length = S.length := by unfold addE; rw [List.length_set]
theorem addE_get (S : List (List Int)) (f : Nat) (t : Int) (hf : f < S.length) (i : Nat) : (addE S f t).getD i [] = if i = f then S.getD f [] ++ [t] else S.getD i [] := by
  unfold addE
  rw [List.getD_eq_getElem?_getD, List.getElem?_set]
  by_cases h : i = f
  · subst h
    rw [if_pos rfl, if_pos hf, if_pos rfl]; rfl
  · rw [if_neg (fun e => h e.symm), if_neg h, ← List.getD_eq_getElem?_getD]
theorem app_get (S : List (List Int)) (i : Nat) : (S ++ [[]]).getD i [] = S.getD i [] := by
  rw [List.getD_eq_getElem?_getD, List.getD_eq_getElem?_getD]
  by_cases h : i < S.length
  · rw [List.getElem?_append_left h]
  · rw [List.getElem?_append_right (by omega), List.getElem?_eq_none (l := S) (by omega)]
    by_cases h0 : i - S.length = 0
    · rw [h0]; rfl
    · obtain ⟨m, hm⟩ : ∃ m, i - S.length = m + 1 := ⟨i - S.length - 1, by omega⟩
      rw [hm]; rfl
/-- What stands behind the row that i had at first. -/
def New (fw : Bool) (n0 : Nat) (J : List (Nat × Nat)) (i : Nat) (x : Int) : Prop :=
  ∃ k l r, J[k]? = some (l, r) ∧ (if fw then x = ((n0 + k : Nat) : Int) ∧ (l = i ∨ r = i) else i = n0 + k ∧ (x = (l : Int) ∨ x = (r : Int)))
structure Gr (fw : Bool) (S0 : List (List Int)) (J : List (Nat × Nat)) (S : List (List Int)) : Prop where
  len : S.length = S0.length + J.length
  row : ∀ i, ∃ E, S.getD i [] = S0.getD i [] ++ E ∧ E.length ≤ 2 * J.length ∧ ∀ x, x ∈ E ↔ New fw S0.length J i x
theorem gr_start (fw : Bool) (S0 : List (List Int)) : Gr fw S0 [] S0 :=
  ⟨by simp, fun i => ⟨[], by simp, by simp, fun x => ⟨fun h => by simp at h, fun ⟨k, l, r, h, _⟩ => by simp at h⟩⟩⟩
theorem get_push {α : Type} (l : List α) (a : α) (k : Nat) (x : α) : (l ++ [a])[k]? = some x ↔ l[k]? = some x ∨ (k = l.length ∧ x = a) := by
  by_cases h : k < l.length
  · rw [List.getElem?_append_left h]
    exact ⟨.inl, fun h2 => h2.elim id (fun h2 => by omega)⟩
  · rw [List.getElem?_append_right (by omega), List.getElem?_eq_none (l := l) (by omega)]
    by_cases h0 : k = l.length
    · subst h0
      simp [eq_comm]
    · obtain ⟨m, hm⟩ : ∃ m, k - l.length = m + 1 := ⟨k - l.length - 1, by omega⟩
      rw [hm]
      simp [h0]
theorem new_push {fw : Bool} {n0 : Nat} {J : List (Nat × Nat)} {a b i : Nat} {x : Int} : New fw n0 (J ++ [(a, b)]) i x ↔ New fw n0 J i x ∨ (if fw then x = ((n0 + J.length : Nat) : Int) ∧ (a = i ∨ b = i) else i = n0 + J.length ∧ (x = (a : Int) ∨ x = (b : Int))) := by
  constructor
  · rintro ⟨k, l, r, h, h2⟩
    rcases (get_push _ _ _ _).1 h with h | ⟨hk, e⟩
    · exact .inl ⟨k, l, r, h, h2⟩
    · cases e; subst hk; exact .inr h2
  · rintro (⟨k, l, r, h, h2⟩ | h)
    · exact ⟨k, l, r, (get_push _ _ _ _).2 (.inl h), h2⟩
    · exact ⟨J.length, a, b, (get_push _ _ _ _).2 (.inr ⟨rfl, rfl⟩), h⟩
theorem gr_join {fw : Bool} {S0 S : List (List Int)} {J : List (Nat × Nat)} {a b : Nat} (h : Gr fw S0 J S) (ha : a < S0.length + J.length) (hb : b < S0.length + J.length) (hne : a ≠ b) : Gr fw S0 (J ++ [(a, b)]) (joinE fw S a b) := by
  have hl := h.len
  have hl1 : (S ++ [([] : List Int)]).length = S.length + 1 := by simp
  unfold joinE
  cases fw with
  | true =>
    rw [if_pos rfl]
    refine ⟨by rw [addE_length, addE_length, hl1, hl]; simp; omega, fun i => ?_⟩
    obtain ⟨E, e1, e2, e3⟩ := h.row i
    rw [addE_get _ _ _ (by rw [addE_length]; omega), addE_get _ _ _ (by omega), addE_get _ _ _ (by omega), app_get, app_get, app_get]
    by_cases hib : i = b
    · subst hib
      rw [if_pos rfl, if_neg (fun e => hne e.symm), e1]
      refine ⟨E ++ [(S.length : Int)], by simp, by simp; omega, fun x => ?_⟩
      rw [List.mem_append, e3 x, new_push, hl]
      simp
    · rw [if_neg hib]
      by_cases hia : i = a
      · subst hia
        rw [if_pos rfl, e1]
        refine ⟨E ++ [(S.length : Int)], by simp, by simp; omega, fun x => ?_⟩
        rw [List.mem_append, e3 x, new_push, hl]
        simp
      · rw [if_neg hia]
        refine ⟨E, e1, by simp; omega, fun x => ?_⟩
        rw [e3 x, new_push]
        have h1 : ¬ a = i := fun e => hia e.symm
        have h2 : ¬ b = i := fun e => hib e.symm
        simp [h1, h2]
  | false =>
    rw [if_neg (by simp)]
    refine ⟨by rw [addE_length, addE_length, hl1, hl]; simp; omega, fun i => ?_⟩
    obtain ⟨E, e1, e2, e3⟩ := h.row i
    rw [addE_get _ _ _ (by rw [addE_length]; omega), addE_get _ _ _ (by omega), addE_get _ _ _ (by omega), app_get, app_get, if_pos rfl]
    by_cases hi : i = S.length
    · subst hi
      rw [if_pos rfl, e1]
      refine ⟨E ++ [(a : Int), (b : Int)], by simp, by simp; omega, fun x => ?_⟩
      rw [List.mem_append, e3 x, new_push, hl]
      simp
    · rw [if_neg hi, if_neg hi]
      refine ⟨E, e1, by simp; omega, fun x => ?_⟩
      rw [e3 x, new_push]
      have h1 : ¬ i = S0.length + J.length := by omega
      simp [h1]

/-! ### the law's own turning of the new edges -/
/-- adj holds, by junction, what it joins. -/
def AdjOk (J : List (Nat × Nat)) (adj : List (List Int)) : Prop :=
  adj.length = J.length ∧ ∀ k, k < J.length → ∀ y, y ∈ adj.getD k [] ↔ ∃ l r, J[k]? = some (l, r) ∧ (y = (l : Int) ∨ y = (r : Int))
/-- Forwards: all entries ahead of (i, kk) are turned. -/
structure Adj (n0 : Nat) (S0 S : List (List Int)) (nj i kk M : Nat) (adj : List (List Int)) : Prop where
  len : adj.length = nj
  mem : ∀ k, k < nj → ∀ y, y ∈ adj.getD k [] ↔ ∃ i' k' : Nat, (i' < i ∨ (i' = i ∧ k' < kk)) ∧ (S0.getD i' []).length ≤ k' ∧ (S.getD i' [])[k']? = some ((n0 + k : Nat) : Int) ∧ y = (i' : Int)
  siz : ∀ k, (adj.getD k []).length ≤ i * M + kk
theorem adj_start (n0 : Nat) (S0 S : List (List Int)) (nj kk M : Nat) (hk : kk ≤ (S0.getD 0 []).length) : Adj n0 S0 S nj 0 kk M (List.replicate nj []) := by
  have e : ∀ k, (List.replicate nj ([] : List Int)).getD k [] = [] := fun k => by
    rw [List.getD_eq_getElem?_getD, List.getElem?_replicate]
    split <;> rfl
  refine ⟨by simp, fun k _ y => ?_, fun k => by rw [e]; simp⟩
  rw [e]
  constructor
  · intro h; simp at h
  · rintro ⟨i', k', h | ⟨rfl, h⟩, h2, _⟩ <;> omega
theorem adj_open {n0 : Nat} {S0 S : List (List Int)} {nj i M : Nat} {adj : List (List Int)} (h : Adj n0 S0 S nj i 0 M adj) : Adj n0 S0 S nj i (S0.getD i []).length M adj := by
  refine ⟨h.len, fun k hk y => (h.mem k hk y).trans ⟨?_, ?_⟩, fun k => Nat.le_trans (h.siz k) (by omega)⟩
  · rintro ⟨i', k', h | ⟨rfl, h⟩, h2⟩
    · exact ⟨i', k', .inl h, h2⟩
    · omega
  · rintro ⟨i', k', h | ⟨rfl, h⟩, h2, h3⟩
    · exact ⟨i', k', .inl h, h2, h3⟩
    · omega
theorem adj_close {n0 : Nat} {S0 S : List (List Int)} {nj i M kk : Nat} {adj : List (List Int)} (h : Adj n0 S0 S nj i kk M adj) (hk : (S.getD i []).length ≤ kk) (hM : kk ≤ M) : Adj n0 S0 S nj (i + 1) 0 M adj := by
  refine ⟨h.len, fun k hk' y => (h.mem k hk' y).trans ⟨?_, ?_⟩, fun k => Nat.le_trans (h.siz k) (by rw [Nat.succ_mul]; omega)⟩
  · rintro ⟨i', k', h | ⟨rfl, h⟩, h2⟩
    · exact ⟨i', k', .inl (by omega), h2⟩
    · exact ⟨i', k', .inl (by omega), h2⟩
  · rintro ⟨i', k', h | ⟨rfl, h⟩, h2, h3, h4⟩
    · by_cases e : i' = i
      · subst e
        have := (List.getElem?_eq_some_iff.1 h3).1
        exact ⟨i', k', .inr ⟨rfl, by omega⟩, h2, h3, h4⟩
      · exact ⟨i', k', .inl (by omega), h2, h3, h4⟩
    · omega
theorem adj_add {n0 : Nat} {S0 S : List (List Int)} {nj i M kk j : Nat} {adj : List (List Int)} (h : Adj n0 S0 S nj i kk M adj) (hj : j < nj) (h0 : (S0.getD i []).length ≤ kk) (hx : (S.getD i [])[kk]? = some ((n0 + j : Nat) : Int)) :
    Adj n0 S0 S nj i (kk + 1) M (addE adj j (i : Int)) := by
  have hl := h.len
  refine ⟨by rw [addE_length]; exact hl, fun k hk y => ?_, fun k => ?_⟩
  · rw [addE_get _ _ _ (by omega)]
    by_cases e : k = j
    · subst e
      rw [if_pos rfl, List.mem_append, h.mem k hk y]
      constructor
      · rintro (⟨i', k', h | ⟨rfl, h⟩, h2⟩ | h)
        · exact ⟨i', k', .inl h, h2⟩
        · exact ⟨i', k', .inr ⟨rfl, by omega⟩, h2⟩
        · exact ⟨i, kk, .inr ⟨rfl, by omega⟩, h0, hx, by simpa using h⟩
      · rintro ⟨i', k', h | ⟨rfl, h⟩, h2, h3, h4⟩
        · exact .inl ⟨i', k', .inl h, h2, h3, h4⟩
        · by_cases e : k' = kk
          · exact .inr (by simpa using h4)
          · exact .inl ⟨i', k', .inr ⟨rfl, by omega⟩, h2, h3, h4⟩
    · rw [if_neg e, h.mem k hk y]
      constructor
      · rintro ⟨i', k', h | ⟨rfl, h⟩, h2⟩
        · exact ⟨i', k', .inl h, h2⟩
        · exact ⟨i', k', .inr ⟨rfl, by omega⟩, h2⟩
      · rintro ⟨i', k', h | ⟨rfl, h⟩, h2, h3, h4⟩
        · exact ⟨i', k', .inl h, h2, h3, h4⟩
        · by_cases e' : k' = kk
          · subst e'
            rw [hx] at h3
            injection h3 with h3
            omega
          · exact ⟨i', k', .inr ⟨rfl, by omega⟩, h2, h3, h4⟩
  · rw [addE_get _ _ _ (by omega)]
    have h1 := h.siz k
    have h2 := h.siz j
    split
    · rw [List.length_append, List.length_singleton]; omega
    · omega
theorem adj_end {S0 S : List (List Int)} {J : List (Nat × Nat)} {M : Nat} {adj : List (List Int)} (hg : Gr true S0 J S) (h : Adj S0.length S0 S J.length (S0.length + J.length) 0 M adj) (hJ : JOk S0.length J) : AdjOk J adj := by
  refine ⟨h.len, fun k hk y => (h.mem k hk y).trans ⟨?_, ?_⟩⟩
  · rintro ⟨i', k', _, h2, h3, rfl⟩
    obtain ⟨E, e1, _, e3⟩ := hg.row i'
    rw [e1, List.getElem?_append_right h2] at h3
    obtain ⟨k2, l, r, h4, h5⟩ := (e3 _).1 (List.mem_of_getElem? h3)
    rw [if_pos rfl] at h5
    have : k2 = k := by omega
    subst this
    exact ⟨l, r, h4, by omega⟩
  · rintro ⟨l, r, h4, h5⟩
    have key : ∀ i' : Nat, i' = l ∨ i' = r → ∃ i'' k' : Nat, (i'' < S0.length + J.length ∨ (i'' = S0.length + J.length ∧ k' < 0)) ∧ (S0.getD i'' []).length ≤ k' ∧ (S.getD i'' [])[k']? = some ((S0.length + k : Nat) : Int) ∧ (i' : Int) = (i'' : Int) := by
      intro i' hi'
      obtain ⟨E, e1, _, e3⟩ := hg.row i'
      have h6 : ((S0.length + k : Nat) : Int) ∈ E := (e3 _).2 ⟨k, l, r, h4, by rw [if_pos rfl]; exact ⟨rfl, by omega⟩⟩
      obtain ⟨m, hm⟩ := List.getElem?_of_mem h6
      have hb := hJ k l r h4
      refine ⟨i', (S0.getD i' []).length + m, .inl (by omega), by omega, ?_, rfl⟩
      rw [e1, List.getElem?_append_right (by omega), Nat.add_sub_cancel_left]; exact hm
    rcases h5 with rfl | rfl
    · exact key l (.inl rfl)
    · exact key r (.inr rfl)
/-- Backwards: the new rows themselves. -/
theorem adj_back {S0 S : List (List Int)} {J : List (Nat × Nat)} {adj : List (List Int)} (hg : Gr false S0 J S) (hl : adj.length = J.length) (h : ∀ k, k < J.length → adj.getD k [] = S.getD (S0.length + k) []) : AdjOk J adj := by
  refine ⟨hl, fun k hk y => ?_⟩
  rw [h k hk]
  obtain ⟨E, e1, _, e3⟩ := hg.row (S0.length + k)
  have e0 : S0.getD (S0.length + k) [] = [] := by rw [List.getD_eq_getElem?_getD, List.getElem?_eq_none (by omega)]; rfl
  rw [e1, e0, List.nil_append, e3 y]
  constructor
  · rintro ⟨k2, l, r, h1, h2⟩
    rw [if_neg (by simp)] at h2
    have : k2 = k := by omega
    subst this
    exact ⟨l, r, h1, h2.2⟩
  · rintro ⟨l, r, h1, h2⟩
    exact ⟨k, l, r, h1, by rw [if_neg (by simp)]; exact ⟨rfl, h2⟩⟩

/-! ### sets as ascending rows -/
def Asc (s : List Nat) : Prop := s.Pairwise (· < ·)
theorem asc_len : ∀ (s : List Nat) (b n : Nat), Asc s → (∀ y ∈ s, b ≤ y ∧ y < n) → s.length ≤ n - b
  | [], _, _, _, _ => by simp
  | a :: s, b, n, h, hb => by
    have h' := List.pairwise_cons.1 h
    have h1 := asc_len s (a + 1) n h'.2 (fun y hy => ⟨h'.1 y hy, (hb y (by simp [hy])).2⟩)
    have h2 := hb a (by simp)
    simp only [List.length_cons]
    omega
theorem asc_lt {s : List Nat} (h : Asc s) {i j x y : Nat} (hi : s[i]? = some x) (hj : s[j]? = some y) (hij : i < j) : x < y := by
  obtain ⟨h1, h2⟩ := List.getElem?_eq_some_iff.1 hi
  obtain ⟨h3, h4⟩ := List.getElem?_eq_some_iff.1 hj
  have := List.pairwise_iff_getElem.1 h i j h1 h3 hij
  omega
/-- The row s is the set of the tree node q. -/
def SetOf (P : Nat → Prop) (s : List Nat) : Prop := Asc s ∧ ∀ y, y ∈ s ↔ P y
/-- The answer of nearStandsFor. -/
def standsFor (x : Int) (s : List Nat) (n0 total : Nat) : Bool :=
  match s with
  | [] => x == -1
  | [a] => x == (a : Int)
  | _ => decide ((n0 : Int) ≤ x) && decide (x < (total : Int))
theorem stands_for {n0 : Nat} {J : List (Nat × Nat)} {x : Int} {P : Nat → Prop} {s : List Nat} (h : Stands n0 J x P) (hs : SetOf P s) : standsFor x s n0 (n0 + J.length) = true := by
  match s, hs with
  | [], hs =>
    rcases h with ⟨rfl, _⟩ | ⟨a, _, rfl, h⟩ | ⟨k, _, rfl, ⟨a, b, _, ha, _⟩, _⟩
    · rfl
    · have := (hs.2 a).2 ((h a).2 rfl); simp at this
    · have := (hs.2 a).2 ha; simp at this
  | [c], hs =>
    rcases h with ⟨rfl, h⟩ | ⟨a, _, rfl, h⟩ | ⟨k, _, rfl, ⟨a, b, hab, ha, hb⟩, _⟩
    · exact absurd ((hs.2 c).1 (by simp)) (h c)
    · have := (h c).1 ((hs.2 c).1 (by simp)); subst this; simp [standsFor]
    · have h1 := (hs.2 a).2 ha
      have h2 := (hs.2 b).2 hb
      simp at h1 h2; omega
  | c :: d :: s, hs =>
    have hcd : c < d := (List.pairwise_cons.1 hs.1).1 d (by simp)
    rcases h with ⟨rfl, h⟩ | ⟨a, _, rfl, h⟩ | ⟨k, hk, rfl, _⟩
    · exact absurd ((hs.2 c).1 (by simp)) (h c)
    · have h1 := (h c).1 ((hs.2 c).1 (by simp))
      have h2 := (h d).1 ((hs.2 d).1 (by simp))
      omega
    · simp only [standsFor, Bool.and_eq_true, decide_eq_true_eq]; omega
theorem stands_two {n0 : Nat} {J : List (Nat × Nat)} {x : Int} {P : Nat → Prop} {s : List Nat} (h : Stands n0 J x P) (hs : SetOf P s) (h2 : 2 ≤ s.length) : ∃ k, k < J.length ∧ x = ((n0 + k : Nat) : Int) ∧ ∀ y, y ∈ s ↔ Leaf n0 J (n0 + k) y := by
  match s, hs, h2 with
  | [], _, h2 => simp at h2
  | [c], _, h2 => simp at h2
  | c :: d :: s, hs, _ =>
    have hcd : c < d := (List.pairwise_cons.1 hs.1).1 d (by simp)
    rcases h with ⟨rfl, h⟩ | ⟨a, _, rfl, h⟩ | ⟨k, hk, rfl, _, h⟩
    · exact absurd ((hs.2 c).1 (by simp)) (h c)
    · have h1 := (h c).1 ((hs.2 c).1 (by simp))
      have h2 := (h d).1 ((hs.2 d).1 (by simp))
      omega
    · exact ⟨k, hk, rfl, fun y => (hs.2 y).trans (h y)⟩
theorem stands_new {n0 : Nat} {J : List (Nat × Nat)} {k : Nat} {P : Nat → Prop} {s : List Nat} (h : Stands n0 J ((n0 + k : Nat) : Int) P) (hs : SetOf P s) : 2 ≤ s.length := by
  rcases h with ⟨h, _⟩ | ⟨a, _, h, _⟩ | ⟨k', hk, h, ⟨a, b, hab, ha, hb⟩, _⟩
  · omega
  · omega
  · have h1 := (hs.2 a).2 ha
    have h2 := (hs.2 b).2 hb
    match s with
    | [] => simp at h1
    | [c] => simp at h1 h2; omega
    | _ :: _ :: _ => simp

/-! ### the union -/
structure UI (a b : List Nat) (i j : Nat) (o : List Nat) : Prop where
  hi : i ≤ a.length
  hj : j ≤ b.length
  asc : Asc o
  mem : ∀ y, y ∈ o ↔ y ∈ a.take i ∨ y ∈ b.take j
  la : ∀ y ∈ o, ∀ k z, i ≤ k → a[k]? = some z → y ≤ z
  lb : ∀ y ∈ o, ∀ k z, j ≤ k → b[k]? = some z → y ≤ z
  len : o.length ≤ i + j
theorem ui_start (a b : List Nat) : UI a b 0 0 [] :=
  ⟨Nat.zero_le _, Nat.zero_le _, List.Pairwise.nil, fun y => by simp, fun y h => by simp at h, fun y h => by simp at h, by simp⟩
theorem ui_end {a b o : List Nat} (h : UI a b a.length b.length o) : Asc o ∧ ∀ y, y ∈ o ↔ y ∈ a ∨ y ∈ b :=
  ⟨h.asc, fun y => by rw [h.mem y, List.take_length, List.take_length]⟩
theorem take_step {l : List Nat} {i x : Nat} (h : l[i]? = some x) : l.take (i + 1) = l.take i ++ [x] := by
  obtain ⟨h1, h2⟩ := List.getElem?_eq_some_iff.1 h
  rw [List.take_succ_eq_append_getElem h1, h2]
/-- What is pushed: x, unless it is the last one. -/
def push (o : List Nat) (x : Nat) : List Nat := if o.getLast? = some x then o else o ++ [x]
theorem push_mem (o : List Nat) (x y : Nat) : y ∈ push o x ↔ y ∈ o ∨ y = x := by
  unfold push
  split
  · rename_i h
    have := List.mem_of_getLast? h
    exact ⟨.inl, fun h => h.elim id (fun e => by rw [e]; exact this)⟩
  · simp
theorem push_asc {o : List Nat} {x : Nat} (h : Asc o) (hx : ∀ y ∈ o, y ≤ x) : Asc (push o x) := by
  unfold push
  split
  · exact h
  · rename_i hn
    refine List.pairwise_append.2 ⟨h, by simp, fun y hy z hz => ?_⟩
    simp at hz
    subst hz
    have h1 := hx y hy
    rcases Nat.lt_or_ge y z with h2 | h2
    · exact h2
    · exfalso
      have e : y = z := by omega
      subst e
      -- the last one is at least y
      obtain ⟨k, hk⟩ := List.getElem?_of_mem hy
      have hlen := (List.getElem?_eq_some_iff.1 hk).1
      have hne : o ≠ [] := fun e => by rw [e] at hy; simp at hy
      have hl : o[o.length - 1]? = some (o.getLast hne) := by rw [List.getElem?_eq_getElem (by omega), List.getLast_eq_getElem]
      by_cases hkl : k = o.length - 1
      · rw [hkl, hl] at hk
        exact hn (by rw [List.getLast?_eq_some_getLast hne]; exact hk)
      · have := asc_lt h hk hl (by omega)
        have := hx _ (List.getLast_mem hne)
        omega
theorem push_len (o : List Nat) (x : Nat) : (push o x).length ≤ o.length + 1 := by
  unfold push; split <;> simp
theorem ui_a {a b o : List Nat} {i j x : Nat} (h : UI a b i j o) (ha : Asc a) (hx : a[i]? = some x) (hb : ∀ z, b[j]? = some z → x ≤ z) (hbs : Asc b) : UI a b (i + 1) j (push o x) := by
  have hi := (List.getElem?_eq_some_iff.1 hx).1
  have hbx : ∀ k z, j ≤ k → b[k]? = some z → x ≤ z := fun k z hk hz => by
    have hkl := (List.getElem?_eq_some_iff.1 hz).1
    obtain ⟨z0, hz0⟩ : ∃ z0, b[j]? = some z0 := ⟨_, List.getElem?_eq_getElem (by omega)⟩
    have h1 := hb z0 hz0
    by_cases e : j = k
    · subst e; rw [hz0] at hz; injection hz with hz; omega
    · have := asc_lt hbs hz0 hz (by omega); omega
  refine ⟨by omega, h.hj, push_asc h.asc (fun y hy => h.la y hy i x (Nat.le_refl _) hx), fun y => ?_, fun y hy k z hk hz => ?_, fun y hy k z hk hz => ?_, by have := push_len o x; have := h.len; omega⟩
  · rw [push_mem, h.mem y, take_step hx, List.mem_append, List.mem_singleton]
    constructor
    · rintro ((h | h) | h)
      · exact .inl (.inl h)
      · exact .inr h
      · exact .inl (.inr h)
    · rintro ((h | h) | h)
      · exact .inl (.inl h)
      · exact .inr h
      · exact .inl (.inr h)
  · rcases (push_mem _ _ _).1 hy with hy | rfl
    · exact h.la y hy k z (by omega) hz
    · exact Nat.le_of_lt (asc_lt ha hx hz (by omega))
  · rcases (push_mem _ _ _).1 hy with hy | rfl
    · exact h.lb y hy k z hk hz
    · exact hbx k z hk hz
theorem UI.symm {a b o : List Nat} {i j : Nat} (h : UI a b i j o) : UI b a j i o :=
  ⟨h.hj, h.hi, h.asc, fun y => (h.mem y).trans or_comm, h.lb, h.la, by have := h.len; omega⟩
theorem ui_b {a b o : List Nat} {i j x : Nat} (h : UI a b i j o) (hb : Asc b) (hx : b[j]? = some x) (ha : ∀ z, a[i]? = some z → x ≤ z) (has : Asc a) : UI a b i (j + 1) (push o x) :=
  (ui_a h.symm hb hx ha has).symm

/-! ### the search -/
def Done (n0 : Nat) (s : List Nat) (seen mark : List Bool) (y : Nat) : Prop :=
  (y < n0 → ∃ i : Nat, s[i]? = some y ∧ mark[i]? = some true) ∧ (n0 ≤ y → seen[y - n0]? = some true)
structure RI (n0 : Nat) (J : List (Nat × Nat)) (adj : List (List Int)) (s : List Nat) (j u ku : Nat) (seen mark : List Bool) (st : List Nat) : Prop where
  ls : seen.length = J.length
  lm : mark.length = s.length
  sto : ∀ x ∈ st, n0 ≤ x ∧ x < n0 + J.length ∧ seen[x - n0]? = some true
  cnt : st.length + seen.count false ≤ J.length
  sub : ∀ k : Nat, seen[k]? = some true → ∀ y, Leaf n0 J (n0 + k) y → y ∈ s
  exp : ∀ k : Nat, seen[k]? = some true → n0 + k ∈ st ∨ ∀ (kk y : Nat), (adj.getD k [])[kk]? = some (y : Int) → (k = u → kk < ku) → Done n0 s seen mark y
  top : seen[j]? = some true
theorem count_set_b : ∀ (l : List Bool) (p : Nat), l[p]? = some false → (l.set p true).count false + 1 = l.count false
  | [], p, h => by simp at h
  | a :: l, 0, h => by simp at h; subst h; simp
  | a :: l, p + 1, h => by
    have ih := count_set_b l p (by simpa using h)
    simp only [List.set_cons_succ, List.count_cons]
    omega
theorem count_rep (n : Nat) : (List.replicate n false).count false = n := by simp
theorem set_true {l : List Bool} {p k : Nat} (h : l[k]? = some true) : (l.set p true)[k]? = some true := by
  rw [List.getElem?_set]
  have := (List.getElem?_eq_some_iff.1 h).1
  split
  · rename_i e; subst e; rw [if_pos this]
  · exact h
theorem set_same {l : List Bool} {p : Nat} (h : p < l.length) : (l.set p true)[p]? = some true := by rw [List.getElem?_set_self h]
theorem of_set {l : List Bool} {p k : Nat} (h : (l.set p true)[k]? = some true) : k = p ∨ l[k]? = some true := by
  by_cases e : k = p
  · exact .inl e
  · rw [List.getElem?_set_ne (fun h => e h.symm)] at h; exact .inr h
theorem Done.keep {n0 : Nat} {s : List Nat} {seen mark : List Bool} {y : Nat} (h : Done n0 s seen mark y) (a b : Nat) : Done n0 s (seen.set a true) (mark.set b true) y :=
  ⟨fun hy => by obtain ⟨i, h1, h2⟩ := h.1 hy; exact ⟨i, h1, set_true h2⟩, fun hy => set_true (h.2 hy)⟩
theorem Done.seen {n0 : Nat} {s : List Nat} {seen mark : List Bool} {y : Nat} (h : Done n0 s seen mark y) (a : Nat) : Done n0 s (seen.set a true) mark y :=
  ⟨h.1, fun hy => set_true (h.2 hy)⟩
theorem Done.mark {n0 : Nat} {s : List Nat} {seen mark : List Bool} {y : Nat} (h : Done n0 s seen mark y) (b : Nat) : Done n0 s seen (mark.set b true) y :=
  ⟨fun hy => by obtain ⟨i, h1, h2⟩ := h.1 hy; exact ⟨i, h1, set_true h2⟩, h.2⟩
variable {n0 j u ku : Nat} {J : List (Nat × Nat)} {adj : List (List Int)} {s st : List Nat} {seen mark : List Bool}
theorem ri_start (hj : j < J.length) (hs : ∀ y, y ∈ s ↔ Leaf n0 J (n0 + j) y) (u ku : Nat) : RI n0 J adj s j u ku ((List.replicate J.length false).set j true) (List.replicate s.length false) [n0 + j] := by
  have hjl : j < (List.replicate J.length false).length := by simp [hj]
  have hf : (List.replicate J.length false)[j]? = some false := by rw [List.getElem?_replicate, if_pos hj]
  have only : ∀ k, ((List.replicate J.length false).set j true)[k]? = some true → k = j := fun k hk => by
    rcases of_set hk with h | h
    · exact h
    · rw [List.getElem?_replicate] at h; split at h <;> simp at h
  refine ⟨by simp, by simp, fun x hx => ?_, ?_, fun k hk y hy => ?_, fun k hk => .inl ?_, set_same hjl⟩
  · simp at hx; subst hx
    exact ⟨by omega, by omega, by rw [Nat.add_sub_cancel_left]; exact set_same hjl⟩
  · have := count_set_b _ j hf
    rw [count_rep] at this
    simp only [List.length_singleton]; omega
  · rw [only k hk] at hy; exact (hs y).2 hy
  · rw [only k hk]; simp
theorem ri_pop {v : Nat} (h : RI n0 J adj s j u ku seen mark (st ++ [n0 + v])) (hku : (adj.getD u []).length ≤ ku) : RI n0 J adj s j v 0 seen mark st := by
  refine ⟨h.ls, h.lm, fun x hx => h.sto x (by simp [hx]), by have := h.cnt; simp at this; omega, h.sub, fun k hk => ?_, h.top⟩
  rcases h.exp k hk with h1 | h1
  · rcases List.mem_append.1 h1 with h1 | h1
    · exact .inl h1
    · simp at h1
      exact .inr fun kk y _ h2 => absurd (h2 (by omega)) (by omega)
  · exact .inr fun kk y hy _ => h1 kk y hy (fun e => by subst e; have := (List.getElem?_eq_some_iff.1 hy).1; omega)
/-- What the next neighbour is. -/
theorem ri_next (ha : AdjOk J adj) (hJ : JOk n0 J) (h : RI n0 J adj s j u ku seen mark st) (hu : seen[u]? = some true) {y : Int} (hy : (adj.getD u [])[ku]? = some y) : ∃ z : Nat, y = (z : Int) ∧ z < n0 + J.length ∧ ∀ x, Leaf n0 J z x → x ∈ s := by
  have hul : u < J.length := by rw [← h.ls]; exact (List.getElem?_eq_some_iff.1 hu).1
  obtain ⟨l, r, h1, h2⟩ := (ha.2 u hul y).1 (List.mem_of_getElem? hy)
  have hb := hJ u l r h1
  rcases h2 with rfl | rfl
  · exact ⟨l, rfl, by omega, fun x hx => h.sub u hu x (.left h1 hx)⟩
  · exact ⟨r, rfl, by omega, fun x hx => h.sub u hu x (.right h1 hx)⟩
theorem ri_old (h : RI n0 J adj s j u ku seen mark st) {z i : Nat} (hy : (adj.getD u [])[ku]? = some (z : Int)) (hz : z < n0) (hi : s[i]? = some z) : RI n0 J adj s j u (ku + 1) seen (mark.set i true) st := by
  refine ⟨h.ls, by rw [List.length_set]; exact h.lm, h.sto, h.cnt, h.sub, fun k hk => ?_, h.top⟩
  rcases h.exp k hk with h1 | h1
  · exact .inl h1
  · refine .inr fun kk y hkk h2 => ?_
    by_cases e : k = u ∧ kk = ku
    · obtain ⟨rfl, rfl⟩ := e
      rw [hy] at hkk
      injection hkk with hkk
      have : z = y := by omega
      subst this
      exact ⟨fun _ => ⟨i, hi, set_same (by rw [h.lm]; exact (List.getElem?_eq_some_iff.1 hi).1)⟩, fun h => by omega⟩
    · exact (h1 kk y hkk (fun e1 => by have := h2 e1; omega)).mark i
theorem ri_seen (h : RI n0 J adj s j u ku seen mark st) {z : Nat} (hy : (adj.getD u [])[ku]? = some (z : Int)) (hz : n0 ≤ z) (hs : seen[z - n0]? = some true) : RI n0 J adj s j u (ku + 1) seen mark st := by
  refine ⟨h.ls, h.lm, h.sto, h.cnt, h.sub, fun k hk => ?_, h.top⟩
  rcases h.exp k hk with h1 | h1
  · exact .inl h1
  · refine .inr fun kk y hkk h2 => ?_
    by_cases e : k = u ∧ kk = ku
    · obtain ⟨rfl, rfl⟩ := e
      rw [hy] at hkk
      injection hkk with hkk
      have : z = y := by omega
      subst this
      exact ⟨fun h => by omega, fun _ => hs⟩
    · exact h1 kk y hkk (fun e1 => by have := h2 e1; omega)
theorem ri_push (h : RI n0 J adj s j u ku seen mark st) {z : Nat} (hy : (adj.getD u [])[ku]? = some (z : Int)) (hz : n0 ≤ z) (hf : seen[z - n0]? = some false) (hl : ∀ x, Leaf n0 J z x → x ∈ s) : RI n0 J adj s j u (ku + 1) (seen.set (z - n0) true) mark (st ++ [z]) := by
  have hzl : z - n0 < seen.length := (List.getElem?_eq_some_iff.1 hf).1
  have hls := h.ls
  refine ⟨by rw [List.length_set]; exact h.ls, h.lm, fun x hx => ?_, ?_, fun k hk y hy => ?_, fun k hk => ?_, set_true h.top⟩
  · rcases List.mem_append.1 hx with hx | hx
    · obtain ⟨h1, h2, h3⟩ := h.sto x hx
      exact ⟨h1, h2, set_true h3⟩
    · simp at hx; subst hx
      exact ⟨hz, by omega, set_same hzl⟩
  · have h1 := count_set_b _ _ hf
    have h2 := h.cnt
    simp only [List.length_append, List.length_singleton]; omega
  · rcases of_set hk with rfl | hk
    · rw [show n0 + (z - n0) = z from by omega] at hy; exact hl y hy
    · exact h.sub k hk y hy
  · rcases of_set hk with rfl | hk
    · exact .inl (by rw [show n0 + (z - n0) = z from by omega]; simp)
    · rcases h.exp k hk with h1 | h1
      · exact .inl (by simp [h1])
      · refine .inr fun kk y hkk h2 => ?_
        by_cases e : k = u ∧ kk = ku
        · obtain ⟨rfl, rfl⟩ := e
          rw [hy] at hkk
          injection hkk with hkk
          have : z = y := by omega
          subst this
          exact ⟨fun h => by omega, fun _ => set_same hzl⟩
        · exact (h1 kk y hkk (fun e1 => by have := h2 e1; omega)).seen _
theorem ri_leaf (ha : AdjOk J adj) (h : RI n0 J adj s j u ku seen mark []) (hku : (adj.getD u []).length ≤ ku) {x y : Nat} (hl : Leaf n0 J x y) : Done n0 s seen mark x → ∃ i : Nat, s[i]? = some y ∧ mark[i]? = some true := by
  refine hl.ind (P := fun x y => Done n0 s seen mark x → ∃ i : Nat, s[i]? = some y ∧ mark[i]? = some true) (fun x hx hd => hd.1 hx) (fun k l r y hk _ ih hd => ?_) (fun k l r y hk _ ih hd => ?_)
  · have hs : seen[k]? = some true := by have := hd.2 (by omega); rwa [Nat.add_sub_cancel_left] at this
    have hkl : k < J.length := (List.getElem?_eq_some_iff.1 hk).1
    obtain ⟨kk, hkk⟩ := List.getElem?_of_mem ((ha.2 k hkl (l : Int)).2 ⟨l, r, hk, .inl rfl⟩)
    exact ih (((h.exp k hs).resolve_left (by simp)) kk l hkk (fun e => by subst e; have := (List.getElem?_eq_some_iff.1 hkk).1; omega))
  · have hs : seen[k]? = some true := by have := hd.2 (by omega); rwa [Nat.add_sub_cancel_left] at this
    have hkl : k < J.length := (List.getElem?_eq_some_iff.1 hk).1
    obtain ⟨kk, hkk⟩ := List.getElem?_of_mem ((ha.2 k hkl (r : Int)).2 ⟨l, r, hk, .inr rfl⟩)
    exact ih (((h.exp k hs).resolve_left (by simp)) kk r hkk (fun e => by subst e; have := (List.getElem?_eq_some_iff.1 hkk).1; omega))
theorem ri_end (ha : AdjOk J adj) (h : RI n0 J adj s j u ku seen mark []) (hku : (adj.getD u []).length ≤ ku) (hasc : Asc s) (hs : ∀ y, y ∈ s ↔ Leaf n0 J (n0 + j) y) : ∀ i : Nat, i < s.length → mark[i]? = some true := by
  intro i hi
  have hx : s[i]? = some s[i] := List.getElem?_eq_getElem hi
  have hl := (hs s[i]).1 (List.mem_of_getElem? hx)
  obtain ⟨i', h1, h2⟩ := ri_leaf ha h hku hl ⟨fun h => by omega, fun _ => by rw [Nat.add_sub_cancel_left]; exact h.top⟩
  rcases Nat.lt_trichotomy i i' with h3 | h3 | h3
  · have := asc_lt hasc hx h1 h3; omega
  · subst h3; exact h2
  · have := asc_lt hasc h1 hx h3; omega
end Go.Proofs.Qxb6601646a.Np
