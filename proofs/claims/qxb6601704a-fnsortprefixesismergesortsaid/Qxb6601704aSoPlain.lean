import Derived.Laws.CopyOwn
import Derived.Test.Qxb6601704aEscPlain
namespace Go.Proofs.Qxb6601704a.So
open Go.Proofs.Qxb6601704a.Esc (bc bc_length bc_append)

/-! ### the order of lists of bytes -/
theorem lt_of_le_ne {x y : List UInt8} (h : x ≤ y) (n : x ≠ y) : x < y := by
  by_cases h1 : x < y
  · exact h1
  · exact absurd (List.le_antisymm h (List.not_lt.1 h1)) n
theorem le_cons {a : UInt8} {x y : List UInt8} (h : x ≤ y) : a :: x ≤ a :: y := by
  rw [← List.not_lt] at *
  intro h2
  rw [List.cons_lt_cons_iff] at h2
  rcases h2 with h2 | ⟨_, h2⟩
  · exact absurd h2 (by simp)
  · exact h h2
theorem lt_cons_head {a b : UInt8} {x y : List UInt8} (h : a < b) : a :: x < b :: y := by
  rw [List.cons_lt_cons_iff]; exact .inl h

/-- Two lists sorted and permutations of one another are one. -/
theorem eq_of_sorted : ∀ {l m : List (List UInt8)}, l.Pairwise (· ≤ ·) → m.Pairwise (· ≤ ·) → l.Perm m → l = m
  | [], m, _, _, h => by rw [List.nil_perm] at h; exact h.symm
  | a :: l, [], _, _, h => by simp at h
  | a :: l, b :: m, hl, hm, h => by
    rw [List.pairwise_cons] at hl hm
    have hab : a = b := by
      have h1 : a ≤ b := by
        have : b ∈ a :: l := h.mem_iff.2 (by simp)
        rcases List.mem_cons.1 this with e | e
        · rw [e]; exact List.le_refl _
        · exact hl.1 b e
      have h2 : b ≤ a := by
        have : a ∈ b :: m := h.mem_iff.1 (by simp)
        rcases List.mem_cons.1 this with e | e
        · rw [e]; exact List.le_refl _
        · exact hm.1 a e
      exact List.le_antisymm h1 h2
    subst hab
    rw [eq_of_sorted hl.2 hm.2 ((List.perm_cons a).1 h)]

/-! ### blocks -/
/-- Every block has 'size' bytes. -/
def Blk (size : Nat) (L : List (List UInt8)) : Prop := ∀ x ∈ L, x.length = size
theorem Blk.tail {size : Nat} {x : List UInt8} {L : List (List UInt8)} (h : Blk size (x :: L)) : Blk size L := fun y hy => h y (by simp [hy])
theorem Blk.perm {size : Nat} {L M : List (List UInt8)} (h : Blk size L) (p : M.Perm L) : Blk size M := fun y hy => h y (p.mem_iff.1 hy)
theorem Blk.set {size : Nat} {L : List (List UInt8)} (h : Blk size L) (k : Nat) (x : List UInt8) (hx : x.length = size) : Blk size (L.set k x) := by
  intro y hy
  rcases List.mem_or_eq_of_mem_set hy with h1 | h1
  · exact h y h1
  · rw [h1]; exact hx
theorem flat_len {size : Nat} : ∀ {L : List (List UInt8)}, Blk size L → L.flatten.length = L.length * size
  | [], _ => by simp
  | x :: L, h => by
    have h1 := h x (by simp)
    have h2 := flat_len h.tail
    rw [List.flatten_cons, List.length_append, h1, h2, List.length_cons, Nat.succ_mul]
    omega
theorem flat_drop {size : Nat} : ∀ {L : List (List UInt8)} (k : Nat), Blk size L → L.flatten.drop (k * size) = (L.drop k).flatten
  | L, 0, _ => by simp
  | [], k + 1, _ => by simp
  | x :: L, k + 1, h => by
    have h1 := h x (by simp)
    rw [List.flatten_cons, List.drop_succ_cons, ← flat_drop k h.tail, Nat.succ_mul, Nat.add_comm, ← List.drop_drop, ← h1, List.drop_left]
theorem flat_take {size : Nat} : ∀ {L : List (List UInt8)} (k : Nat), Blk size L → L.flatten.take (k * size) = (L.take k).flatten
  | L, 0, _ => by simp
  | [], k + 1, _ => by simp
  | x :: L, k + 1, h => by
    have h1 := h x (by simp)
    rw [List.flatten_cons, List.take_succ_cons, List.flatten_cons, ← flat_take k h.tail, Nat.succ_mul, Nat.add_comm, ← h1, List.take_length_add_append]
theorem flat_block {size : Nat} {L : List (List UInt8)} (h : Blk size L) (i : Nat) (hi : i < L.length) : (L.flatten.drop (i * size)).take size = L[i] := by
  rw [flat_drop i h, List.drop_eq_getElem_cons hi, List.flatten_cons, ← h L[i] (List.getElem_mem hi), List.take_left]
theorem flat_at {size : Nat} {L : List (List UInt8)} (h : Blk size L) (i j : Nat) (hi : i < L.length) (hj : j < size) : L.flatten[i * size + j]? = (L[i])[j]? := by
  have e := flat_block h i hi
  rw [← e, List.getElem?_take_of_lt hj, List.getElem?_drop]
theorem flat_set {size : Nat} {L : List (List UInt8)} (h : Blk size L) (k : Nat) (hk : k < L.length) (x : List UInt8) (hx : x.length = size) :
    splice L.flatten (k * size) x = (L.set k x).flatten := by
  unfold splice
  have e : k * size + x.length = (k + 1) * size := by rw [hx, Nat.succ_mul]
  rw [e, flat_take k h, flat_drop (k + 1) h, List.set_eq_take_append_cons_drop, if_pos hk, List.flatten_append, List.flatten_cons]
theorem bc_splice (l : List UInt8) (k : Nat) (x : List UInt8) : splice (bc l) k (bc x) = bc (splice l k x) := by
  unfold splice bc
  simp [List.map_drop]

/-- A list of n * size bytes as blocks. -/
theorem to_blocks (size : Nat) : ∀ (n : Nat) (l : List UInt8), l.length = n * size → ∃ L, Blk size L ∧ L.length = n ∧ L.flatten = l
  | 0, l, h => ⟨[], fun _ hx => by simp at hx, rfl, by simp at h; rw [h]; rfl⟩
  | n + 1, l, h => by
    have h1 : (l.drop size).length = n * size := by rw [List.length_drop, h, Nat.succ_mul]; omega
    obtain ⟨L, hL, hn, hf⟩ := to_blocks size n (l.drop size) h1
    refine ⟨l.take size :: L, ?_, by simp [hn], by rw [List.flatten_cons, hf, List.take_append_drop]⟩
    intro x hx
    rcases List.mem_cons.1 hx with e | e
    · rw [e, List.length_take, h, Nat.succ_mul]; omega
    · exact hL x e

/-! ### the merge sort -/
def le (x y : List UInt8) : Bool := decide (x ≤ y)
theorem le_tr (a b c : List UInt8) (h1 : le a b = true) (h2 : le b c = true) : le a c = true := by
  unfold le at *; simp at *; exact List.le_trans h1 h2
theorem le_tot (a b : List UInt8) : (le a b || le b a) = true := by
  unfold le; simp; exact List.le_total a b

/-- One pass: neighbouring runs of width w merged. -/
def pass (w : Nat) : Nat → List (List UInt8) → List (List UInt8)
  | 0, _ => []
  | f + 1, l => if l = [] then [] else List.merge (l.take w) ((l.drop w).take w) le ++ pass w f (l.drop (2 * w))

theorem take_two (l : List (List UInt8)) (w : Nat) : l.take w ++ (l.drop w).take w = l.take (2 * w) := by
  rw [Nat.two_mul, List.take_add]

theorem pass_perm (w : Nat) (hw : 0 < w) : ∀ (f : Nat) (l : List (List UInt8)), l.length ≤ f → (pass w f l).Perm l
  | 0, l, h => by
    have : l = [] := List.eq_nil_of_length_eq_zero (by omega)
    subst this; exact List.Perm.refl _
  | f + 1, l, h => by
    unfold pass
    by_cases e : l = []
    · rw [if_pos e, e]
    · rw [if_neg e]
      have hl : 0 < l.length := List.length_pos_iff.2 e
      have ih := pass_perm w hw f (l.drop (2 * w)) (by rw [List.length_drop]; omega)
      have h1 : (List.merge (l.take w) ((l.drop w).take w) le).Perm (l.take (2 * w)) := by
        rw [← take_two]; exact List.merge_perm_append le
      have h2 := h1.append ih
      rw [List.take_append_drop] at h2
      exact h2

/-- Runs of width w are sorted. -/
def Runs (w : Nat) (l : List (List UInt8)) : Prop := ∀ c, ((l.drop (c * w)).take w).Pairwise (fun a b => le a b = true)

theorem pass_runs (w : Nat) (hw : 0 < w) : ∀ (f : Nat) (l : List (List UInt8)), l.length ≤ f → Runs w l → Runs (2 * w) (pass w f l)
  | 0, l, h, _ => by
    have : l = [] := List.eq_nil_of_length_eq_zero (by omega)
    subst this
    intro c; simp [pass]
  | f + 1, l, h, hr => by
    by_cases e : l = []
    · intro c; simp [pass, e]
    · have hl : 0 < l.length := List.length_pos_iff.2 e
      have hr2 : Runs w (l.drop (2 * w)) := by
        intro c
        rw [List.drop_drop, show 2 * w + c * w = (c + 2) * w from by rw [Nat.add_mul]; omega]
        exact hr (c + 2)
      have ih := pass_runs w hw f (l.drop (2 * w)) (by rw [List.length_drop]; omega) hr2
      have hs : (List.merge (l.take w) ((l.drop w).take w) le).Pairwise (fun a b => le a b = true) := by
        refine List.pairwise_merge (fun a b c => le_tr a b c) le_tot _ _ ?_ ?_
        · have := hr 0; simpa using this
        · have := hr 1; simpa using this
      have hlen : (List.merge (l.take w) ((l.drop w).take w) le).length = min (2 * w) l.length := by
        rw [(List.merge_perm_append le).length_eq, take_two, List.length_take]
      have ep : pass w (f + 1) l = List.merge (l.take w) ((l.drop w).take w) le ++ pass w f (l.drop (2 * w)) := by
        rw [pass, if_neg e]
      intro c
      rw [ep]
      cases c with
      | zero =>
        rw [Nat.zero_mul, List.drop_zero]
        by_cases hc : 2 * w ≤ l.length
        · rw [List.take_append_of_le_length (by omega), List.take_of_length_le (by omega)]
          exact hs
        · have : l.drop (2 * w) = [] := List.drop_eq_nil_of_le (by omega)
          have e2 : pass w f (l.drop (2 * w)) = [] := by rw [this]; cases f <;> simp [pass]
          rw [e2, List.append_nil, List.take_of_length_le (by omega)]
          exact hs
      | succ c =>
        by_cases hc : 2 * w ≤ l.length
        · rw [show (c + 1) * (2 * w) = 2 * w + c * (2 * w) from by rw [Nat.succ_mul]; omega, ← List.drop_drop, List.drop_left' (by omega)]
          exact ih c
        · have : l.drop (2 * w) = [] := List.drop_eq_nil_of_le (by omega)
          have e2 : pass w f (l.drop (2 * w)) = [] := by rw [this]; cases f <;> simp [pass]
          rw [e2, List.append_nil, List.drop_eq_nil_of_le]
          · simp
          · rw [hlen]; exact Nat.le_trans (Nat.min_le_left _ _) (Nat.le_mul_of_pos_left _ (by omega))

theorem runs_one (l : List (List UInt8)) : Runs 1 l := by
  intro c
  generalize l.drop (c * 1) = m
  cases m with
  | nil => simp
  | cons a m => simp

theorem runs_all (w : Nat) (l : List (List UInt8)) (h : l.length ≤ w) (hr : Runs w l) : l.Pairwise (· ≤ ·) := by
  have := hr 0
  rw [Nat.zero_mul, List.drop_zero, List.take_of_length_le h] at this
  exact this.imp fun h => by unfold le at h; simpa using h

/-- The fuel does not matter. -/
theorem pass_fuel (w : Nat) (hw : 0 < w) : ∀ (f g : Nat) (l : List (List UInt8)), l.length ≤ f → l.length ≤ g → pass w f l = pass w g l
  | 0, 0, _, _, _ => rfl
  | 0, g + 1, l, h, _ => by
    have : l = [] := List.eq_nil_of_length_eq_zero (by omega)
    subst this; simp [pass]
  | f + 1, 0, l, _, h => by
    have : l = [] := List.eq_nil_of_length_eq_zero (by omega)
    subst this; simp [pass]
  | f + 1, g + 1, l, hf, hg => by
    unfold pass
    by_cases e : l = []
    · rw [if_pos e, if_pos e]
    · have hl : 0 < l.length := List.length_pos_iff.2 e
      rw [if_neg e, if_neg e, pass_fuel w hw f g (l.drop (2 * w)) (by rw [List.length_drop]; omega) (by rw [List.length_drop]; omega)]
end Go.Proofs.Qxb6601704a.So
