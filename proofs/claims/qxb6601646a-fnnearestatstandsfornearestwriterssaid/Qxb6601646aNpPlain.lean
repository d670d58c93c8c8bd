import Derived.Below
namespace Go.Proofs.Qxb6601646a.Np

/-! ### junctions, and what a node of the graph stands for -/
def LeafN (n0 : Nat) (J : List (Nat × Nat)) : Nat → Nat → Nat → Prop
  | 0, x, y => x < n0 ∧ x = y
  | m + 1, x, y => ∃ k l r, x = n0 + k ∧ J[k]? = some (l, r) ∧ (LeafN n0 J m l y ∨ LeafN n0 J m r y)
def Leaf (n0 : Nat) (J : List (Nat × Nat)) (x y : Nat) : Prop := ∃ m, LeafN n0 J m x y
theorem Leaf.old {n0 : Nat} {J : List (Nat × Nat)} {x : Nat} (h : x < n0) : Leaf n0 J x x := ⟨0, h, rfl⟩
theorem Leaf.left {n0 : Nat} {J : List (Nat × Nat)} {k l r y : Nat} (hk : J[k]? = some (l, r)) (h : Leaf n0 J l y) : Leaf n0 J (n0 + k) y := by
  obtain ⟨m, hm⟩ := h
  exact ⟨m + 1, k, l, r, rfl, hk, .inl hm⟩
theorem Leaf.right {n0 : Nat} {J : List (Nat × Nat)} {k l r y : Nat} (hk : J[k]? = some (l, r)) (h : Leaf n0 J r y) : Leaf n0 J (n0 + k) y := by
  obtain ⟨m, hm⟩ := h
  exact ⟨m + 1, k, l, r, rfl, hk, .inr hm⟩
theorem leafN_ind {n0 : Nat} {J : List (Nat × Nat)} {P : Nat → Nat → Prop} (h0 : ∀ x, x < n0 → P x x) (h1 : ∀ k l r y, J[k]? = some (l, r) → Leaf n0 J l y → P l y → P (n0 + k) y) (h2 : ∀ k l r y, J[k]? = some (l, r) → Leaf n0 J r y → P r y → P (n0 + k) y) : ∀ m x y, LeafN n0 J m x y → P x y
  | 0, x, y, h => by obtain ⟨h, rfl⟩ := h; exact h0 x h
  | m + 1, x, y, h => by
    obtain ⟨k, l, r, rfl, hk, h | h⟩ := h
    · exact h1 k l r y hk ⟨m, h⟩ (leafN_ind h0 h1 h2 m l y h)
    · exact h2 k l r y hk ⟨m, h⟩ (leafN_ind h0 h1 h2 m r y h)
theorem Leaf.ind {n0 : Nat} {J : List (Nat × Nat)} {P : Nat → Nat → Prop} {x y : Nat} (h : Leaf n0 J x y) (h0 : ∀ x, x < n0 → P x x) (h1 : ∀ k l r y, J[k]? = some (l, r) → Leaf n0 J l y → P l y → P (n0 + k) y) (h2 : ∀ k l r y, J[k]? = some (l, r) → Leaf n0 J r y → P r y → P (n0 + k) y) : P x y := by
  obtain ⟨m, hm⟩ := h
  exact leafN_ind h0 h1 h2 m x y hm
/-- Each junction joins two nodes made before it. -/
def JOk (n0 : Nat) (J : List (Nat × Nat)) : Prop := ∀ k l r, J[k]? = some (l, r) → l < n0 + k ∧ r < n0 + k

theorem Leaf.lt {n0 : Nat} {J : List (Nat × Nat)} {x y : Nat} (h : Leaf n0 J x y) : y < n0 :=
  h.ind (P := fun _ y => y < n0) (fun _ h => h) (fun _ _ _ _ _ _ ih => ih) (fun _ _ _ _ _ _ ih => ih)
theorem get_app {α : Type} {l : List α} {k : Nat} {x : α} (e : List α) (h : l[k]? = some x) : (l ++ e)[k]? = some x := by
  rw [List.getElem?_append_left (List.getElem?_eq_some_iff.1 h).1]; exact h
theorem Leaf.app {n0 : Nat} {J : List (Nat × Nat)} {x y : Nat} (h : Leaf n0 J x y) (E : List (Nat × Nat)) : Leaf n0 (J ++ E) x y :=
  h.ind (P := fun x y => Leaf n0 (J ++ E) x y) (fun _ h => .old h) (fun _ _ _ _ h _ ih => .left (get_app E h) ih) (fun _ _ _ _ h _ ih => .right (get_app E h) ih)
theorem Leaf.unapp {n0 : Nat} {J E : List (Nat × Nat)} {x y : Nat} (hJ : JOk n0 (J ++ E)) (h : Leaf n0 (J ++ E) x y) : x < n0 + J.length → Leaf n0 J x y := by
  refine h.ind (P := fun x y => x < n0 + J.length → Leaf n0 J x y) (fun _ h _ => .old h) (fun k l r y h _ ih hx => ?_) (fun k l r y h _ ih hx => ?_)
  · have hk : k < J.length := by omega
    have hb := hJ k l r h
    rw [List.getElem?_append_left hk] at h
    exact .left h (ih (by omega))
  · have hk : k < J.length := by omega
    have hb := hJ k l r h
    rw [List.getElem?_append_left hk] at h
    exact .right h (ih (by omega))
theorem leaf_old {n0 : Nat} {J : List (Nat × Nat)} {x y : Nat} (hx : x < n0) : Leaf n0 J x y ↔ y = x := by
  constructor
  · rintro ⟨m, hm⟩
    match m, hm with
    | 0, hm => exact hm.2.symm
    | m + 1, hm => obtain ⟨k, l, r, e, _⟩ := hm; omega
  · rintro rfl; exact .old hx
theorem leaf_new {n0 : Nat} {J : List (Nat × Nat)} {k l r y : Nat} (hk : J[k]? = some (l, r)) : Leaf n0 J (n0 + k) y ↔ Leaf n0 J l y ∨ Leaf n0 J r y := by
  constructor
  · rintro ⟨m, hm⟩
    match m, hm with
    | 0, hm => have := hm.1; omega
    | m + 1, hm =>
      obtain ⟨k', l', r', e, h, h2⟩ := hm
      have : k' = k := by omega
      subst this
      rw [hk] at h; cases h
      rcases h2 with h2 | h2
      · exact .inl ⟨m, h2⟩
      · exact .inr ⟨m, h2⟩
  · rintro (h | h)
    · exact .left hk h
    · exact .right hk h

/-- x stands for the nodes that P holds of. -/
def Stands (n0 : Nat) (J : List (Nat × Nat)) (x : Int) (P : Nat → Prop) : Prop :=
  (x = -1 ∧ ∀ y, ¬ P y) ∨ (∃ a : Nat, a < n0 ∧ x = (a : Int) ∧ ∀ y, P y ↔ y = a) ∨
  (∃ k : Nat, k < J.length ∧ x = ((n0 + k : Nat) : Int) ∧ (∃ a b, a ≠ b ∧ P a ∧ P b) ∧ ∀ y, P y ↔ Leaf n0 J (n0 + k) y)
theorem Stands.app {n0 : Nat} {J E : List (Nat × Nat)} {x : Int} {P : Nat → Prop} (h : Stands n0 J x P) (hJ : JOk n0 (J ++ E)) : Stands n0 (J ++ E) x P := by
  rcases h with h | h | ⟨k, hk, hx, h2, h3⟩
  · exact .inl h
  · exact .inr (.inl h)
  · refine .inr (.inr ⟨k, by simp; omega, hx, h2, fun y => (h3 y).trans ⟨fun h => h.app E, fun h => h.unapp hJ (by omega)⟩⟩)
theorem Stands.ge {n0 : Nat} {J : List (Nat × Nat)} {x : Int} {P : Nat → Prop} (h : Stands n0 J x P) : -1 ≤ x ∧ x < ((n0 + J.length : Nat) : Int) := by
  rcases h with ⟨rfl, _⟩ | ⟨a, h, rfl, _⟩ | ⟨k, h, rfl, _⟩ <;> omega
theorem Stands.some {n0 : Nat} {J : List (Nat × Nat)} {x : Nat} {P : Nat → Prop} (h : Stands n0 J (x : Int) P) : x < n0 + J.length ∧ (∃ y, P y) ∧ ∀ y, P y ↔ Leaf n0 J x y := by
  rcases h with ⟨h, _⟩ | ⟨a, h, hx, h2⟩ | ⟨k, h, hx, ⟨a, b, _, ha, _⟩, h2⟩
  · omega
  · have : x = a := by omega
    subst this
    exact ⟨by omega, ⟨x, (h2 x).2 rfl⟩, fun y => (h2 y).trans (leaf_old h).symm⟩
  · have : x = n0 + k := by omega
    subst this
    exact ⟨by omega, ⟨a, ha⟩, h2⟩
theorem Stands.none {n0 : Nat} {J : List (Nat × Nat)} {x : Int} {P : Nat → Prop} (h : Stands n0 J x P) (hx : x < 0) : x = -1 ∧ ∀ y, ¬ P y := by
  rcases h with h | ⟨a, h, rfl, h2⟩ | ⟨k, h, rfl, h2⟩
  · exact h
  · omega
  · omega
theorem Stands.congr {n0 : Nat} {J : List (Nat × Nat)} {x : Int} {P Q : Nat → Prop} (h : Stands n0 J x P) (e : ∀ y, Q y ↔ P y) : Stands n0 J x Q := by
  have : Q = P := funext fun y => propext (e y)
  rw [this]; exact h

/-- The three ways at the end of 'at': v and the junctions. -/
def Comb (n0 : Nat) (J : List (Nat × Nat)) (l r v : Int) (J' : List (Nat × Nat)) : Prop :=
  (l < 0 ∧ v = r ∧ J' = J) ∨ (∃ a b : Nat, l = (a : Int) ∧ r = (b : Int) ∧ a ≠ b ∧ v = ((n0 + J.length : Nat) : Int) ∧ J' = J ++ [(a, b)]) ∨ (0 ≤ l ∧ (r < 0 ∨ r = l) ∧ v = l ∧ J' = J)
theorem JOk.push {n0 : Nat} {J : List (Nat × Nat)} {a b : Nat} (h : JOk n0 J) (ha : a < n0 + J.length) (hb : b < n0 + J.length) : JOk n0 (J ++ [(a, b)]) := by
  intro k l r hk
  by_cases hlt : k < J.length
  · rw [List.getElem?_append_left hlt] at hk
    exact h k l r hk
  · rw [List.getElem?_append_right (by omega)] at hk
    by_cases h0 : k - J.length = 0
    · rw [h0] at hk
      simp at hk
      obtain ⟨rfl, rfl⟩ := hk
      omega
    · obtain ⟨m, hm⟩ : ∃ m, k - J.length = m + 1 := ⟨k - J.length - 1, by omega⟩
      rw [hm] at hk; simp at hk

/-- The law of the junction: v stands for both. d: r is new beyond what l knows. -/
theorem comb_stands {n0 d : Nat} {J J' : List (Nat × Nat)} {l r v : Int} {P Q : Nat → Prop} (hJ : JOk n0 J) (hl : Stands n0 J l P) (hr : Stands n0 J r Q) (hd : l < ((n0 + d : Nat) : Int)) (hr2 : ((n0 : Nat) : Int) ≤ r → ((n0 + d : Nat) : Int) ≤ r) (hc : Comb n0 J l r v J') :
    JOk n0 J' ∧ Stands n0 J' v (fun y => P y ∨ Q y) := by
  rcases hc with ⟨h, rfl, rfl⟩ | ⟨a, b, e1, e2, hne, rfl, rfl⟩ | ⟨h0, h, rfl, rfl⟩
  · have := (hl.none h).2
    exact ⟨hJ, hr.congr fun y => ⟨fun h => h.elim (fun h => absurd h (this y)) id, .inr⟩⟩
  · subst e1 e2
    obtain ⟨ha, ⟨ya, hya⟩, hPa⟩ := hl.some
    obtain ⟨hb, ⟨yb, hyb⟩, hPb⟩ := hr.some
    have hJ' := hJ.push ha hb
    refine ⟨hJ', .inr (.inr ⟨J.length, by simp, rfl, ?_, fun y => ?_⟩)⟩
    · rcases hl with ⟨h, _⟩ | ⟨a', h, hx, h2⟩ | ⟨k, h, hx, ⟨x, y, hxy, hx2, hy2⟩, h2⟩
      · omega
      · rcases hr with ⟨h, _⟩ | ⟨b', h', hx', h2'⟩ | ⟨k, h', hx', ⟨x, y, hxy, hx2, hy2⟩, h2'⟩
        · omega
        · exact ⟨a', b', by omega, .inl ((h2 a').2 rfl), .inr ((h2' b').2 rfl)⟩
        · exact ⟨x, y, hxy, .inr hx2, .inr hy2⟩
      · exact ⟨x, y, hxy, .inl hx2, .inl hy2⟩
    · rw [leaf_new (l := a) (r := b) (by simp)]
      have e1 : Leaf n0 (J ++ [(a, b)]) a y ↔ Leaf n0 J a y := ⟨fun h => h.unapp hJ' ha, fun h => h.app _⟩
      have e2 : Leaf n0 (J ++ [(a, b)]) b y ↔ Leaf n0 J b y := ⟨fun h => h.unapp hJ' hb, fun h => h.app _⟩
      show P y ∨ Q y ↔ _
      rw [e1, e2, hPa y, hPb y]
  · refine ⟨hJ, ?_⟩
    rcases h with h | h
    · have := (hr.none h).2
      exact hl.congr fun y => ⟨fun h => h.elim id (fun h => absurd h (this y)), .inl⟩
    · subst h
      obtain ⟨a, rfl⟩ : ∃ a : Nat, r = (a : Int) := ⟨r.toNat, by omega⟩
      refine hl.congr fun y => ⟨fun h => h.elim id (fun h => ?_), .inl⟩
      have hlt : a < n0 := by
        by_cases hc : a < n0
        · exact hc
        · have := hr2 (by omega); omega
      have h1 := (hr.some.2.2 y).1 h
      exact (hl.some.2.2 y).2 h1

/-! ### the tree -/
/-- y stands under the tree node q. -/
def InN (size : Nat) (W nd : List Int) : Nat → Nat → Nat → Prop
  | 0, q, y => (size ≤ q ∧ W[q - size]? = some (y : Int)) ∨ (q < size ∧ nd[q]? = some (y : Int))
  | m + 1, q, y => q < size ∧ nd[q]? = some (-2) ∧ (InN size W nd m (2 * q) y ∨ InN size W nd m (2 * q + 1) y)
def In (size : Nat) (W nd : List Int) (q y : Nat) : Prop := ∃ m, InN size W nd m q y
theorem in_leaf {size : Nat} {W nd : List Int} {q y : Nat} (h : size ≤ q) : In size W nd q y ↔ W[q - size]? = some (y : Int) := by
  constructor
  · rintro ⟨m, hm⟩
    match m, hm with
    | 0, hm => exact hm.elim (fun h => h.2) (fun h => by have := h.1; omega)
    | m + 1, hm => have := hm.1; omega
  · intro h2; exact ⟨0, .inl ⟨h, h2⟩⟩
theorem in_kept {size : Nat} {W nd : List Int} {q y : Nat} {v : Int} (h : q < size) (h0 : nd[q]? = some v) (hv : v ≠ -2) : In size W nd q y ↔ v = (y : Int) := by
  constructor
  · rintro ⟨m, hm⟩
    match m, hm with
    | 0, hm =>
      rcases hm with ⟨h1, _⟩ | ⟨_, h1⟩
      · omega
      · rw [h0] at h1; injection h1
    | m + 1, hm => have h1 := hm.2.1; rw [h0] at h1; injection h1 with h1; exact absurd h1 hv
  · rintro rfl; exact ⟨0, .inr ⟨h, h0⟩⟩
theorem in_made {size : Nat} {W nd : List Int} {p y : Nat} (h1 : p < size) (h2 : nd[p]? = some (-2)) : In size W nd p y ↔ In size W nd (2 * p) y ∨ In size W nd (2 * p + 1) y := by
  constructor
  · rintro ⟨m, hm⟩
    match m, hm with
    | 0, hm =>
      rcases hm with ⟨h3, _⟩ | ⟨_, h3⟩
      · omega
      · rw [h2] at h3; injection h3 with h3; omega
    | m + 1, hm =>
      rcases hm.2.2 with h | h
      · exact .inl ⟨m, h⟩
      · exact .inr ⟨m, h⟩
  · rintro (⟨m, h⟩ | ⟨m, h⟩)
    · exact ⟨m + 1, h1, h2, .inl h⟩
    · exact ⟨m + 1, h1, h2, .inr h⟩
/-- The tree node q is made when p is asked for. -/
def VisN (size : Nat) (nd : List Int) : Nat → Nat → Nat → Prop
  | 0, p, q => p < size ∧ nd[p]? = some (-2) ∧ p = q
  | m + 1, p, q => p < size ∧ nd[p]? = some (-2) ∧ (VisN size nd m (2 * p) q ∨ VisN size nd m (2 * p + 1) q)
def Vis (size : Nat) (nd : List Int) (p q : Nat) : Prop := ∃ m, VisN size nd m p q
theorem Vis.self {size : Nat} {nd : List Int} {p : Nat} (h1 : p < size) (h2 : nd[p]? = some (-2)) : Vis size nd p p := ⟨0, h1, h2, rfl⟩
theorem Vis.left {size : Nat} {nd : List Int} {p q : Nat} (h1 : p < size) (h2 : nd[p]? = some (-2)) (h : Vis size nd (2 * p) q) : Vis size nd p q := by
  obtain ⟨m, h⟩ := h
  exact ⟨m + 1, h1, h2, .inl h⟩
theorem Vis.right {size : Nat} {nd : List Int} {p q : Nat} (h1 : p < size) (h2 : nd[p]? = some (-2)) (h : Vis size nd (2 * p + 1) q) : Vis size nd p q := by
  obtain ⟨m, h⟩ := h
  exact ⟨m + 1, h1, h2, .inr h⟩
/-- q lies under p. -/
def Sub (p q : Nat) : Prop := ∃ k, q / 2 ^ k = p
theorem Sub.refl (p : Nat) : Sub p p := ⟨0, by simp⟩
theorem Sub.left {p q : Nat} (h : Sub (2 * p) q) : Sub p q := by
  obtain ⟨k, hk⟩ := h
  exact ⟨k + 1, by rw [Nat.pow_succ, ← Nat.div_div_eq_div_mul, hk]; omega⟩
theorem Sub.right {p q : Nat} (h : Sub (2 * p + 1) q) : Sub p q := by
  obtain ⟨k, hk⟩ := h
  exact ⟨k + 1, by rw [Nat.pow_succ, ← Nat.div_div_eq_div_mul, hk]; omega⟩
theorem div_pow_le (a k : Nat) : a / 2 ^ (k + 1) ≤ a / 2 := by
  rw [Nat.pow_succ, Nat.mul_comm, ← Nat.div_div_eq_div_mul]
  exact Nat.div_le_self _ _
theorem Sub.apart {p q : Nat} (hp : 1 ≤ p) (h1 : Sub (2 * p) q) (h2 : Sub (2 * p + 1) q) : False := by
  obtain ⟨k, hk⟩ := h1
  obtain ⟨m, hm⟩ := h2
  rcases Nat.lt_trichotomy k m with h | h | h
  · obtain ⟨d, rfl⟩ : ∃ d, m = k + (d + 1) := ⟨m - k - 1, by omega⟩
    rw [Nat.pow_add, ← Nat.div_div_eq_div_mul, hk] at hm
    have := div_pow_le (2 * p) d
    omega
  · subst h; omega
  · obtain ⟨d, rfl⟩ : ∃ d, k = m + (d + 1) := ⟨k - m - 1, by omega⟩
    rw [Nat.pow_add, ← Nat.div_div_eq_div_mul, hm] at hk
    have := div_pow_le (2 * p + 1) d
    omega
theorem sub_ge {p q : Nat} (h : Sub p q) : p ≤ q := by
  obtain ⟨k, rfl⟩ := h
  exact Nat.div_le_self _ _
theorem visN_sub {size : Nat} {nd : List Int} : ∀ (m p q : Nat), VisN size nd m p q → Sub p q
  | 0, p, q, h => by obtain ⟨_, _, rfl⟩ := h; exact Sub.refl _
  | m + 1, p, q, h => by
    rcases h.2.2 with h | h
    · exact (visN_sub m _ q h).left
    · exact (visN_sub m _ q h).right
theorem Vis.sub {size : Nat} {nd : List Int} {p q : Nat} (h : Vis size nd p q) : Sub p q := by
  obtain ⟨m, h⟩ := h
  exact visN_sub m p q h
theorem visN_lt {size : Nat} {nd : List Int} : ∀ (m p q : Nat), VisN size nd m p q → q < size ∧ nd[q]? = some (-2)
  | 0, p, q, h => by obtain ⟨h1, h2, rfl⟩ := h; exact ⟨h1, h2⟩
  | m + 1, p, q, h => by
    rcases h.2.2 with h | h
    · exact visN_lt m _ q h
    · exact visN_lt m _ q h
theorem Vis.lt {size : Nat} {nd : List Int} {p q : Nat} (h : Vis size nd p q) : q < size ∧ nd[q]? = some (-2) := by
  obtain ⟨m, h⟩ := h
  exact visN_lt m p q h
theorem vis_not {size : Nat} {nd : List Int} {p q : Nat} (h : Vis size nd p q) : p < size ∧ nd[p]? = some (-2) := by
  obtain ⟨m, h⟩ := h
  match m, h with
  | 0, h => exact ⟨h.1, h.2.1⟩
  | m + 1, h => exact ⟨h.1, h.2.1⟩
theorem vis_made {size : Nat} {nd : List Int} {p q : Nat} (h1 : p < size) (h2 : nd[p]? = some (-2)) : Vis size nd p q ↔ q = p ∨ Vis size nd (2 * p) q ∨ Vis size nd (2 * p + 1) q := by
  constructor
  · rintro ⟨m, h⟩
    match m, h with
    | 0, h => exact .inl h.2.2.symm
    | m + 1, h =>
      rcases h.2.2 with h | h
      · exact .inr (.inl ⟨m, h⟩)
      · exact .inr (.inr ⟨m, h⟩)
  · rintro (rfl | h | h)
    · exact .self h1 h2
    · exact .left h1 h2 h
    · exact .right h1 h2 h

/-- How many of the first entries are stale. -/
def cnt (size : Nat) (nd : List Int) : Nat := (nd.take size).count (-2)
theorem cnt_le (size : Nat) (nd : List Int) : cnt size nd ≤ size := by
  unfold cnt
  exact Nat.le_trans List.count_le_length (by rw [List.length_take]; omega)
theorem count_set_ne : ∀ (l : List Int) (p : Nat) (v : Int), l[p]? = some (-2) → v ≠ -2 → (l.set p v).count (-2) + 1 = l.count (-2)
  | [], p, v, h, _ => by simp at h
  | a :: l, 0, v, h, hv => by
    simp at h
    subst h
    simp [hv]
  | a :: l, p + 1, v, h, hv => by
    have h' : l[p]? = some (-2) := by simpa using h
    have ih := count_set_ne l p v h' hv
    simp only [List.set_cons_succ, List.count_cons]
    omega
theorem cnt_set {size : Nat} {nd : List Int} {p : Nat} {v : Int} (hp : p < size) (h : nd[p]? = some (-2)) (hv : v ≠ -2) : cnt size (nd.set p v) + 1 = cnt size nd := by
  unfold cnt
  rw [List.take_set]
  exact count_set_ne _ p v (by rw [List.getElem?_take, if_pos hp]; exact h) hv

/-- What the arguments fulfil. -/
structure Inp (n0 size : Nat) (W nd : List Int) : Prop where
  w : ∀ (i : Nat) (x : Int), W[i]? = some x → -1 ≤ x ∧ x < (n0 : Int)
  n : ∀ (q : Nat) (x : Int), 1 ≤ q → q < size → nd[q]? = some x → x = -2 ∨ (-1 ≤ x ∧ x < (n0 : Int))
  l : size ≤ nd.length

/-- What 'at p' answers and leaves. nd0: the tree at first. -/
structure AtOk (n0 size : Nat) (W nd0 : List Int) (p : Nat) (J : List (Nat × Nat)) (nd : List Int) (v : Int) (J' : List (Nat × Nat)) (nd' : List Int) : Prop where
  ext : ∃ E, J' = J ++ E
  jok : JOk n0 J'
  len : nd'.length = nd.length
  out : ∀ q, ¬ Vis size nd0 p q → nd'[q]? = nd[q]?
  ins : ∀ q, Vis size nd0 p q → ∃ x, nd'[q]? = some x ∧ Stands n0 J' x (In size W nd0 q)
  ans : Stands n0 J' v (In size W nd0 p)
  new : ((n0 : Nat) : Int) ≤ v → ((n0 + J.length : Nat) : Int) ≤ v
  own : ∀ k, J.length ≤ k → k < J'.length → ∃ q, Vis size nd0 p q ∧ nd'[q]? = some ((n0 + k : Nat) : Int)
  top : Vis size nd0 p p → nd'[p]? = some v
  num : J'.length + cnt size nd' ≤ J.length + cnt size nd
/-- What is fulfilled when 'at p' begins. -/
structure AtPre (n0 size : Nat) (W nd0 : List Int) (p : Nat) (J : List (Nat × Nat)) (nd : List Int) : Prop where
  inp : Inp n0 size W nd0
  pos : 1 ≤ p
  jok : JOk n0 J
  len : nd.length = nd0.length
  same : ∀ q, Sub p q → nd[q]? = nd0[q]?
  num : J.length + cnt size nd ≤ cnt size nd0

variable {n0 size p : Nat} {W nd0 nd nd1 nd2 : List Int} {J J1 J2 J3 : List (Nat × Nat)} {l r v : Int}
theorem at_leaf (h : AtPre n0 size W nd0 p J nd) (hp : size ≤ p) (hv : (W[p - size]? = none ∧ v = -1) ∨ W[p - size]? = some v) : AtOk n0 size W nd0 p J nd v J nd := by
  have hnv : ∀ q, ¬ Vis size nd0 p q := fun q hq => by have := (vis_not hq).1; omega
  have hs : Stands n0 J v (In size W nd0 p) ∧ v < (n0 : Int) := by
    rcases hv with ⟨h0, rfl⟩ | h0
    · refine ⟨.inl ⟨rfl, fun y hy => ?_⟩, by omega⟩
      rw [in_leaf hp, h0] at hy; cases hy
    · obtain ⟨h1, h2⟩ := h.inp.w _ _ h0
      refine ⟨?_, h2⟩
      by_cases hm : v = -1
      · subst hm
        refine .inl ⟨rfl, fun y hy => ?_⟩
        rw [in_leaf hp, h0] at hy; injection hy with hy; omega
      · obtain ⟨a, rfl⟩ : ∃ a : Nat, v = (a : Int) := ⟨v.toNat, by omega⟩
        refine .inr (.inl ⟨a, by omega, rfl, fun y => ⟨fun hy => ?_, ?_⟩⟩)
        · rw [in_leaf hp, h0] at hy; injection hy with hy; omega
        · rintro rfl; exact (in_leaf hp).2 h0
  exact ⟨⟨[], by simp⟩, h.jok, rfl, fun _ _ => rfl, fun q hq => absurd hq (hnv q), hs.1, fun hn => by have := hs.2; omega, fun k h1 h2 => by omega, fun hq => absurd hq (hnv p), Nat.le_refl _⟩
theorem at_kept (h : AtPre n0 size W nd0 p J nd) (hp : p < size) (h0 : nd[p]? = some v) (hv : v ≠ -2) : AtOk n0 size W nd0 p J nd v J nd := by
  have h0' : nd0[p]? = some v := by rw [← h.same p (Sub.refl p)]; exact h0
  have hnv : ∀ q, ¬ Vis size nd0 p q := fun q hq => by have := (vis_not hq).2; rw [h0'] at this; injection this with this; exact hv this
  have hb : -1 ≤ v ∧ v < (n0 : Int) := (h.inp.n p v h.pos hp h0').resolve_left hv
  have hin : ∀ y, In size W nd0 p y ↔ v = (y : Int) := fun y => in_kept hp h0' hv
  refine ⟨⟨[], by simp⟩, h.jok, rfl, fun _ _ => rfl, fun q hq => absurd hq (hnv q), ?_, fun hn => by omega, fun k h1 h2 => by omega, fun hq => absurd hq (hnv p), Nat.le_refl _⟩
  by_cases hm : v = -1
  · exact .inl ⟨hm, fun y hy => by have := (hin y).1 hy; omega⟩
  · obtain ⟨a, rfl⟩ : ∃ a : Nat, v = (a : Int) := ⟨v.toNat, by omega⟩
    exact .inr (.inl ⟨a, by omega, rfl, fun y => (hin y).trans (by omega)⟩)
theorem pre_left (h : AtPre n0 size W nd0 p J nd) : AtPre n0 size W nd0 (2 * p) J nd :=
  ⟨h.inp, by have := h.pos; omega, h.jok, h.len, fun q hq => h.same q hq.left, h.num⟩
theorem pre_right (h : AtPre n0 size W nd0 p J nd) (hl : AtOk n0 size W nd0 (2 * p) J nd l J1 nd1) : AtPre n0 size W nd0 (2 * p + 1) J1 nd1 :=
  ⟨h.inp, by have := h.pos; omega, hl.jok, hl.len.trans h.len, fun q hq => (hl.out q (fun hv => Sub.apart h.pos hv.sub hq)).trans (h.same q hq.right), Nat.le_trans hl.num h.num⟩
theorem at_made (h : AtPre n0 size W nd0 p J nd) (hp : p < size) (h0 : nd[p]? = some (-2)) (hl : AtOk n0 size W nd0 (2 * p) J nd l J1 nd1) (hr : AtOk n0 size W nd0 (2 * p + 1) J1 nd1 r J2 nd2) (hc : Comb n0 J2 l r v J3) :
    AtOk n0 size W nd0 p J nd v J3 (nd2.set p v) := by
  have h0' : nd0[p]? = some (-2) := by rw [← h.same p (Sub.refl p)]; exact h0
  obtain ⟨E1, e1⟩ := hl.ext
  obtain ⟨E2, e2⟩ := hr.ext
  have hJ2 : JOk n0 (J1 ++ E2) := by rw [← e2]; exact hr.jok
  have hls : Stands n0 J2 l (In size W nd0 (2 * p)) := by rw [e2]; exact hl.ans.app hJ2
  obtain ⟨hJ3, hs⟩ := comb_stands (d := J1.length) hr.jok hls hr.ans hl.ans.ge.2 hr.new hc
  have hs' : Stands n0 J3 v (In size W nd0 p) := hs.congr fun y => in_made hp h0'
  obtain ⟨E3, e3⟩ : ∃ E, J3 = J2 ++ E := by
    rcases hc with ⟨_, _, rfl⟩ | ⟨a, b, _, _, _, _, rfl⟩ | ⟨_, _, _, rfl⟩
    · exact ⟨[], by simp⟩
    · exact ⟨_, rfl⟩
    · exact ⟨[], by simp⟩
  have hv2 : v ≠ -2 := by have := hs'.ge; omega
  have hpn : p < nd2.length := by rw [hr.len, hl.len, h.len]; have := h.inp.l; omega
  have hnl : ¬ Vis size nd0 (2 * p) p := fun hv => by have := sub_ge hv.sub; have := h.pos; omega
  have hnr : ¬ Vis size nd0 (2 * p + 1) p := fun hv => by have := sub_ge hv.sub; omega
  have hp2 : nd2[p]? = some (-2) := by rw [hr.out p hnr, hl.out p hnl]; exact h0
  have hset : ∀ q, q ≠ p → (nd2.set p v)[q]? = nd2[q]? := fun q hq => by rw [List.getElem?_set_ne (fun e => hq e.symm)]
  have hJ3' : JOk n0 (J2 ++ E3) := by rw [← e3]; exact hJ3
  have insr : ∀ q, Vis size nd0 (2 * p + 1) q → ∃ x, (nd2.set p v)[q]? = some x ∧ Stands n0 J3 x (In size W nd0 q) := fun q hq => by
    obtain ⟨x, hx1, hx2⟩ := hr.ins q hq
    refine ⟨x, by rw [hset q (fun e => by subst e; exact hnr hq)]; exact hx1, by rw [e3]; exact hx2.app hJ3'⟩
  have keepl : ∀ q, Vis size nd0 (2 * p) q → (nd2.set p v)[q]? = nd1[q]? := fun q hq => by
    rw [hset q (fun e => by subst e; exact hnl hq), hr.out q (fun hv => Sub.apart h.pos hq.sub hv.sub)]
  have insl : ∀ q, Vis size nd0 (2 * p) q → ∃ x, (nd2.set p v)[q]? = some x ∧ Stands n0 J3 x (In size W nd0 q) := fun q hq => by
    obtain ⟨x, hx1, hx2⟩ := hl.ins q hq
    refine ⟨x, by rw [keepl q hq]; exact hx1, ?_⟩
    have h1 := hx2.app hJ2
    rw [← e2] at h1
    rw [e3]; exact h1.app hJ3'
  have eJ1 : J1.length = J.length + E1.length := by rw [e1]; simp
  have eJ2 : J2.length = J1.length + E2.length := by rw [e2]; simp
  refine ⟨⟨E1 ++ E2 ++ E3, by rw [e3, e2, e1]; simp⟩, hJ3, by rw [List.length_set, hr.len, hl.len], fun q hq => ?_, fun q hq => ?_, hs', fun hn => ?_, fun k h1 h2 => ?_, fun _ => by rw [List.getElem?_set_self hpn], ?_⟩
  · rw [vis_made hp h0'] at hq
    rw [hset q (fun e => hq (.inl e)), hr.out q (fun e => hq (.inr (.inr e))), hl.out q (fun e => hq (.inr (.inl e)))]
  · rcases (vis_made hp h0').1 hq with rfl | hq | hq
    · exact ⟨v, by rw [List.getElem?_set_self hpn], hs'⟩
    · exact insl q hq
    · exact insr q hq
  · rcases hc with ⟨_, rfl, rfl⟩ | ⟨a, b, _, _, _, rfl, rfl⟩ | ⟨_, _, rfl, rfl⟩
    · have := hr.new hn; omega
    · omega
    · exact hl.new hn
  · by_cases hk1 : k < J1.length
    · obtain ⟨q, hq1, hq2⟩ := hl.own k h1 hk1
      exact ⟨q, .left hp h0' hq1, by rw [keepl q hq1]; exact hq2⟩
    · by_cases hk2 : k < J2.length
      · obtain ⟨q, hq1, hq2⟩ := hr.own k (by omega) hk2
        exact ⟨q, .right hp h0' hq1, by rw [hset q (fun e => by subst e; exact hnr hq1)]; exact hq2⟩
      · rcases hc with ⟨_, rfl, rfl⟩ | ⟨a, b, _, _, _, rfl, rfl⟩ | ⟨_, _, rfl, rfl⟩
        · omega
        · simp at h2
          have : k = J2.length := by omega
          subst this
          exact ⟨p, .self hp h0', by rw [List.getElem?_set_self hpn]⟩
        · omega
  · have h1 := cnt_set (v := v) hp hp2 hv2
    have h2 := hl.num
    have h3 := hr.num
    have h4 : J3.length ≤ J2.length + 1 := by
      rcases hc with ⟨_, _, rfl⟩ | ⟨a, b, _, _, _, _, rfl⟩ | ⟨_, _, _, rfl⟩
      · omega
      · simp
      · omega
    omega
end Go.Proofs.Qxb6601646a.Np
