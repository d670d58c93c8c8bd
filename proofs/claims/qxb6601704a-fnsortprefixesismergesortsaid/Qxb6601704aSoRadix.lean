import Derived.Test.Qxb6601704aSoPlain
namespace Go.Proofs.Qxb6601704a.So

/-- The byte at place p. -/
def key (p : Nat) (x : List UInt8) : Nat := (x.getD p 0).toNat
theorem key_lt (p : Nat) (x : List UInt8) : key p x < 256 := UInt8.toNat_lt _
def fil (p b : Nat) (L : List (List UInt8)) : List (List UInt8) := L.filter fun x => key p x == b
def cnt (p b : Nat) (L : List (List UInt8)) : Nat := (fil p b L).length
def less (p b : Nat) (L : List (List UInt8)) : Nat := (L.filter fun x => decide (key p x < b)).length
def bucket (p : Nat) (L : List (List UInt8)) : List (List UInt8) := (List.range 256).flatMap fun b => fil p b L

theorem filter_split (q : List UInt8 → Bool) : ∀ L : List (List UInt8), (L.filter q ++ L.filter fun x => !q x).Perm L
  | [] => List.Perm.refl _
  | a :: L => by
    have ih := filter_split q L
    by_cases h : q a = true
    · simp only [List.filter_cons, h, if_true, Bool.not_true, Bool.false_eq_true, if_false, List.cons_append]
      exact (List.perm_cons a).2 ih
    · have h' : q a = false := by simpa using h
      simp only [List.filter_cons, h', Bool.not_false, if_true, Bool.false_eq_true, if_false]
      exact (List.perm_middle).trans ((List.perm_cons a).2 ih)

theorem range_perm (p : Nat) (L : List (List UInt8)) : ∀ m, ((List.range m).flatMap fun b => fil p b L).Perm (L.filter fun x => decide (key p x < m))
  | 0 => by simp
  | m + 1 => by
    have ih := range_perm p L m
    rw [List.range_succ, List.flatMap_append]
    have e1 : ([m].flatMap fun b => fil p b L) = fil p m L := by simp
    rw [e1]
    have h := filter_split (fun x => decide (key p x < m)) (L.filter fun x => decide (key p x < m + 1))
    have a1 : (L.filter fun x => decide (key p x < m + 1)).filter (fun x => decide (key p x < m)) = L.filter fun x => decide (key p x < m) := by
      rw [List.filter_filter]
      apply List.filter_congr
      intro x _
      rw [Bool.eq_iff_iff]; simp; omega
    have a2 : (L.filter fun x => decide (key p x < m + 1)).filter (fun x => !decide (key p x < m)) = fil p m L := by
      unfold fil
      rw [List.filter_filter]
      apply List.filter_congr
      intro x _
      rw [Bool.eq_iff_iff]; simp; omega
    rw [a1, a2] at h
    exact (ih.append_right _).trans h

theorem bucket_perm (p : Nat) (L : List (List UInt8)) : (bucket p L).Perm L := by
  have h := range_perm p L 256
  have e : (L.filter fun x => decide (key p x < 256)) = L := by
    rw [List.filter_eq_self]
    intro x _
    simpa using key_lt p x
  rw [e] at h
  exact h

theorem drop_key {size p : Nat} {x : List UInt8} (hx : x.length = size) (hp : p < size) : x.drop p = x.getD p 0 :: x.drop (p + 1) := by
  rw [List.drop_eq_getElem_cons (by omega), List.getD_eq_getElem?_getD, List.getElem?_eq_getElem (by omega)]; rfl

/-- Sorted from place p on. -/
def From (p : Nat) (L : List (List UInt8)) : Prop := L.Pairwise fun x y => x.drop p ≤ y.drop p

theorem same_key {size p : Nat} {x y : List UInt8} (hx : x.length = size) (hy : y.length = size) (hp : p < size) (h : x.drop (p + 1) ≤ y.drop (p + 1)) (hk : key p x = key p y) : x.drop p ≤ y.drop p := by
  rw [drop_key hx hp, drop_key hy hp, UInt8.toNat_inj.1 hk]
  exact le_cons h
theorem less_key {size p : Nat} {x y : List UInt8} (hx : x.length = size) (hy : y.length = size) (hp : p < size) (hk : key p x < key p y) : x.drop p ≤ y.drop p := by
  rw [drop_key hx hp, drop_key hy hp]
  exact List.le_of_lt (lt_cons_head (UInt8.lt_iff_toNat_lt.2 hk))

theorem bucket_from {size p : Nat} {L : List (List UInt8)} (hL : Blk size L) (hp : p < size) (h : From (p + 1) L) : From p (bucket p L) := by
  unfold From bucket
  rw [List.pairwise_flatMap]
  constructor
  · intro b _
    have hs : (fil p b L).Sublist L := List.filter_sublist
    have hw := List.Pairwise.sublist hs h
    refine hw.imp_of_mem fun {x y} hx hy hxy => ?_
    unfold fil at hx hy
    rw [List.mem_filter] at hx hy
    exact same_key (hL x hx.1) (hL y hy.1) hp hxy (by have h1 := eq_of_beq hx.2; have h2 := eq_of_beq hy.2; omega)
  · refine List.pairwise_lt_range.imp fun {a b} hab => ?_
    intro x hx y hy
    unfold fil at hx hy
    rw [List.mem_filter] at hx hy
    exact less_key (hL x hx.1) (hL y hy.1) hp (by have h1 := eq_of_beq hx.2; have h2 := eq_of_beq hy.2; omega)

/-- All share the byte: no pass is wanted. -/
theorem all_same {size p b : Nat} {L : List (List UInt8)} (hL : Blk size L) (hp : p < size) (h : From (p + 1) L) (hc : cnt p b L = L.length) : From p L := by
  have hall : ∀ x ∈ L, key p x = b := by
    have e : fil p b L = L := List.filter_sublist.eq_of_length hc
    intro x hx
    rw [← e] at hx
    unfold fil at hx
    rw [List.mem_filter] at hx
    exact eq_of_beq hx.2
  refine h.imp_of_mem fun {x y} hx hy hxy => ?_
  exact same_key (hL x hx) (hL y hy) hp hxy (by rw [hall x hx, hall y hy])

theorem from_end {size : Nat} {L : List (List UInt8)} (hL : Blk size L) : From size L := by
  unfold From
  refine List.pairwise_iff_forall_sublist.2 fun {x y} hs => ?_
  have hx : x ∈ L := hs.subset (by simp)
  have hy : y ∈ L := hs.subset (by simp)
  rw [List.drop_eq_nil_of_le (by rw [hL x hx]; exact Nat.le_refl _), List.drop_eq_nil_of_le (by rw [hL y hy]; exact Nat.le_refl _)]
  exact List.le_refl _
theorem from_zero {L : List (List UInt8)} (h : From 0 L) : L.Pairwise (· ≤ ·) := h.imp fun h => by simpa using h

/-! ### counting -/
theorem cnt_snoc (p b t : Nat) (L : List (List UInt8)) (ht : t < L.length) : cnt p b (L.take (t + 1)) = cnt p b (L.take t) + (if key p L[t] = b then 1 else 0) := by
  unfold cnt fil
  rw [List.take_succ_eq_append_getElem ht, List.filter_append, List.length_append]
  by_cases h : key p L[t] = b <;> simp [h]
theorem fil_snoc (p b t : Nat) (L : List (List UInt8)) (ht : t < L.length) : fil p b (L.take (t + 1)) = fil p b (L.take t) ++ (if key p L[t] = b then [L[t]] else []) := by
  unfold fil
  rw [List.take_succ_eq_append_getElem ht, List.filter_append]
  by_cases h : key p L[t] = b <;> simp [h]
theorem cnt_le (p b t : Nat) (L : List (List UInt8)) : cnt p b (L.take t) ≤ cnt p b L := by
  unfold cnt fil
  have : (L.take t).Sublist L := List.take_sublist t L
  exact (this.filter _).length_le
theorem cnt_len (p b : Nat) (L : List (List UInt8)) : cnt p b L ≤ L.length := List.length_filter_le _ _
theorem less_len (p b : Nat) (L : List (List UInt8)) : less p b L ≤ L.length := List.length_filter_le _ _
theorem less_zero (p : Nat) (L : List (List UInt8)) : less p 0 L = 0 := by simp [less]
theorem less_succ (p b : Nat) (L : List (List UInt8)) : less p (b + 1) L = less p b L + cnt p b L := by
  have h1 := (range_perm p L (b + 1)).length_eq
  have h2 := (range_perm p L b).length_eq
  unfold less cnt
  rw [← h1, ← h2, List.range_succ, List.flatMap_append, List.length_append]
  simp
theorem less_top (p : Nat) (L : List (List UInt8)) : less p 256 L = L.length := by
  unfold less
  have e : (L.filter fun x => decide (key p x < 256)) = L := by
    rw [List.filter_eq_self]
    intro x _
    simpa using key_lt p x
  rw [e]
theorem less_mono (p : Nat) (L : List (List UInt8)) (a b : Nat) (h : a ≤ b) : less p a L ≤ less p b L := by
  induction b with
  | zero => have : a = 0 := by omega
            subst this; exact Nat.le_refl _
  | succ b ih =>
    by_cases e : a = b + 1
    · subst e; exact Nat.le_refl _
    · have := ih (by omega)
      rw [less_succ]; omega
/-- Room in the bucket for the block at t. -/
theorem room (p t : Nat) (L : List (List UInt8)) (ht : t < L.length) : cnt p (key p L[t]) (L.take t) < cnt p (key p L[t]) L := by
  have h1 := cnt_snoc p (key p L[t]) t L ht
  rw [if_pos rfl] at h1
  have h2 := cnt_le p (key p L[t]) (t + 1) L
  omega
theorem room_all (p t : Nat) (L : List (List UInt8)) (ht : t < L.length) : less p (key p L[t]) L + cnt p (key p L[t]) (L.take t) < L.length := by
  have h1 := room p t L ht
  have h2 := less_succ p (key p L[t]) L
  have h3 := less_len p (key p L[t] + 1) L
  omega

/-! ### the buckets as they fill -/
/-- T is 256 buckets end to end; bucket b has room for all its blocks, and holds, first, those of the first t blocks of L that go there. -/
structure Fill (p : Nat) (L T : List (List UInt8)) (t : Nat) : Prop where
  ex : ∃ ls : List (List (List UInt8)), ls.flatten = T ∧ ls.length = 256 ∧ (∀ b (h : b < ls.length), (ls[b]).length = cnt p b L) ∧ (∀ b (h : b < ls.length), (ls[b]).take (cnt p b (L.take t)) = fil p b (L.take t))

theorem split_lens : ∀ (ns : List Nat) (T : List (List UInt8)), T.length = ns.sum → ∃ ls : List (List (List UInt8)), ls.flatten = T ∧ ls.map List.length = ns
  | [], T, h => ⟨[], by have e : T = [] := List.eq_nil_of_length_eq_zero (by simpa using h); rw [e]; rfl, rfl⟩
  | n :: ns, T, h => by
    rw [List.sum_cons] at h
    obtain ⟨ls, h1, h2⟩ := split_lens ns (T.drop n) (by rw [List.length_drop]; omega)
    exact ⟨T.take n :: ls, by rw [List.flatten_cons, h1, List.take_append_drop], by rw [List.map_cons, h2, List.length_take, Nat.min_eq_left (by omega)]⟩

theorem sum_cnt (p : Nat) (L : List (List UInt8)) : ∀ m, ((List.range m).map fun b => cnt p b L).sum = less p m L
  | 0 => by simp [less_zero]
  | m + 1 => by rw [List.range_succ, List.map_append, List.sum_append, sum_cnt p L m, less_succ]; simp

theorem Fill.start (p : Nat) (L T : List (List UInt8)) (h : T.length = L.length) : Fill p L T 0 := by
  obtain ⟨ls, h1, h2⟩ := split_lens ((List.range 256).map fun b => cnt p b L) T (by rw [sum_cnt, less_top, h])
  have hl : ls.length = 256 := by have := congrArg List.length h2; simpa using this
  refine ⟨ls, h1, hl, ?_, ?_⟩
  · intro b hb
    have e : (ls.map List.length)[b]? = some (cnt p b L) := by rw [h2, List.getElem?_map, List.getElem?_range (by omega)]; rfl
    rw [List.getElem?_map, List.getElem?_eq_getElem hb] at e
    simpa using e
  · intro b hb
    simp [cnt, fil]

theorem pre_len (p : Nat) (L : List (List UInt8)) (ls : List (List (List UInt8))) (hl : ∀ b (h : b < ls.length), (ls[b]).length = cnt p b L) : ∀ b, b ≤ ls.length → (ls.take b).flatten.length = less p b L
  | 0, _ => by simp [less_zero]
  | b + 1, h => by
    rw [List.take_succ_eq_append_getElem (by omega), List.flatten_append, List.length_append, pre_len p L ls hl b (by omega), less_succ]
    simp [hl b (by omega)]

theorem set_flatten : ∀ (ls : List (List (List UInt8))) (b r : Nat) (x : List UInt8) (hb : b < ls.length), r < (ls[b]).length →
    ls.flatten.set ((ls.take b).flatten.length + r) x = (ls.set b ((ls[b]).set r x)).flatten
  | [], b, r, x, hb, _ => by simp at hb
  | l :: ls, 0, r, x, _, hr => by
    simp only [List.take_zero, List.flatten_nil, List.length_nil, Nat.zero_add, List.flatten_cons, List.set_cons_zero, List.getElem_cons_zero]
    exact List.set_append_left _ _ hr
  | l :: ls, b + 1, r, x, hb, hr => by
    have ih := set_flatten ls b r x (by simpa using hb) (by simpa using hr)
    simp only [List.take_succ_cons, List.flatten_cons, List.length_append, List.set_cons_succ, List.getElem_cons_succ]
    rw [Nat.add_assoc, List.set_append_right _ _ (by omega), ← ih]
    congr 1
    simp

theorem Fill.step {p : Nat} {L T : List (List UInt8)} {t : Nat} (h : Fill p L T t) (ht : t < L.length) :
    Fill p L (T.set (less p (key p L[t]) L + cnt p (key p L[t]) (L.take t)) L[t]) (t + 1) := by
  obtain ⟨ls, h1, h2, h3, h4⟩ := h.ex
  have hk := key_lt p L[t]
  have hr := room p t L ht
  have hb : key p L[t] < ls.length := by omega
  have e := set_flatten ls (key p L[t]) (cnt p (key p L[t]) (L.take t)) L[t] hb (by rw [h3 _ hb]; exact hr)
  rw [pre_len p L ls h3 _ (by omega), h1] at e
  refine ⟨_, e.symm, by rw [List.length_set]; exact h2, ?_, ?_⟩
  · intro b hb'
    rw [List.length_set] at hb'
    rw [List.getElem_set]
    split
    · next hbb => subst hbb; rw [List.length_set]; exact h3 _ hb
    · exact h3 b hb'
  · intro b hb'
    rw [List.length_set] at hb'
    rw [cnt_snoc p b t L ht, fil_snoc p b t L ht, List.getElem_set]
    by_cases hbb : key p L[t] = b
    · subst hbb
      rw [if_pos rfl, if_pos rfl, if_pos rfl, List.take_succ_eq_append_getElem (by rw [List.length_set, h3 _ hb]; exact hr), List.getElem_set_self, List.take_set_of_le (Nat.le_refl _), h4 _ hb]
    · rw [if_neg hbb, if_neg hbb, if_neg hbb, Nat.add_zero, List.append_nil]
      exact h4 b hb'

theorem Fill.done {p : Nat} {L T : List (List UInt8)} (h : Fill p L T L.length) : T = bucket p L := by
  obtain ⟨ls, h1, h2, h3, h4⟩ := h.ex
  rw [← h1]
  unfold bucket
  rw [List.flatMap_def]
  congr 1
  apply List.ext_getElem
  · simp [h2]
  · intro b hb hb'
    have e := h4 b hb
    rw [List.take_of_length_le (Nat.le_refl L.length), List.take_of_length_le (by rw [h3 b hb]; exact Nat.le_refl _)] at e
    rw [e]
    simp
end Go.Proofs.Qxb6601704a.So
