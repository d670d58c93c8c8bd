import Derived.Below
namespace Go.Proofs.Qxb6601646a.Tj

/-! ### graphs -/
def scs (S : List (List Nat)) (u : Nat) : List Nat := S.getD u []
def Edge (S : List (List Nat)) (u w : Nat) : Prop := w ∈ scs S u
def Walk (S : List (List Nat)) : Nat → List Nat → Nat → Prop
  | u, [], w => u = w
  | u, x :: p, w => Edge S u x ∧ Walk S x p w
def Reach (S : List (List Nat)) (u w : Nat) : Prop := ∃ p, Walk S u p w
variable {S : List (List Nat)}
theorem Reach.refl (u : Nat) : Reach S u u := ⟨[], rfl⟩
theorem Reach.head {u x w : Nat} (h : Edge S u x) (hr : Reach S x w) : Reach S u w := by
  obtain ⟨p, hp⟩ := hr
  exact ⟨x :: p, h, hp⟩
theorem Reach.edge {u x : Nat} (h : Edge S u x) : Reach S u x := Reach.head h (Reach.refl x)
theorem walk_app : ∀ (p q : List Nat) (u v w : Nat), Walk S u p v → Walk S v q w → Walk S u (p ++ q) w
  | [], q, u, v, w, h1, h2 => by cases h1; exact h2
  | x :: p, q, u, v, w, h1, h2 => ⟨h1.1, walk_app p q x v w h1.2 h2⟩
theorem Reach.trans {u v w : Nat} (h1 : Reach S u v) (h2 : Reach S v w) : Reach S u w := by
  obtain ⟨p, hp⟩ := h1
  obtain ⟨q, hq⟩ := h2
  exact ⟨p ++ q, walk_app p q u v w hp hq⟩
theorem walk_closed (D : Nat → Prop) (hc : ∀ u w, D u → Edge S u w → D w) : ∀ (p : List Nat) (u w : Nat), Walk S u p w → D u → D w
  | [], u, w, h, hu => by cases h; exact hu
  | x :: p, u, w, h, hu => walk_closed D hc p x w h.2 (hc u x hu h.1)
theorem Reach.closed {u w : Nat} (D : Nat → Prop) (hc : ∀ u w, D u → Edge S u w → D w) (h : Reach S u w) (hu : D u) : D w := by
  obtain ⟨p, hp⟩ := h
  exact walk_closed D hc p u w hp hu
/-- On a cycle through another node. -/
def Cyc (S : List (List Nat)) (v : Nat) : Prop := ∃ w, w ≠ v ∧ Reach S v w ∧ Reach S w v
theorem walk_leave : ∀ (p : List Nat) (v w : Nat), Walk S v p w → w ≠ v → ∃ x, x ≠ v ∧ Edge S v x ∧ Reach S x w
  | [], v, w, h, hn => by cases h; exact absurd rfl hn
  | x :: p, v, w, h, hn => by
    by_cases e : x = v
    · subst e; exact walk_leave p x w h.2 hn
    · exact ⟨x, e, h.1, p, h.2⟩
theorem cyc_iff (v : Nat) : Cyc S v ↔ ∃ x, x ≠ v ∧ Edge S v x ∧ Reach S x v := by
  constructor
  · rintro ⟨w, hn, ⟨p, hp⟩, h2⟩
    obtain ⟨x, h3, h4, h5⟩ := walk_leave p v w hp hn
    exact ⟨x, h3, h4, h5.trans h2⟩
  · rintro ⟨x, h1, h2, h3⟩
    exact ⟨x, h1, Reach.edge h2, h3⟩

/-! ### the machine -/
structure TS where
  rank : List Nat
  low : List Nat
  ons : List Bool
  st : List Nat
  calls : List (Nat × Nat)
  found : Nat
def rk (s : TS) (v : Nat) : Nat := s.rank.getD v 0
def lw (s : TS) (v : Nat) : Nat := s.low.getD v 0
def os (s : TS) (v : Nat) : Bool := s.ons.getD v false

theorem getD_set_same {α : Type} (l : List α) (i : Nat) (v d : α) (h : i < l.length) : (l.set i v).getD i d = v := by
  rw [List.getD_eq_getElem?_getD, List.getElem?_set_self h]; rfl
theorem getD_set_ne {α : Type} (l : List α) (i j : Nat) (v d : α) (h : i ≠ j) : (l.set i v).getD j d = l.getD j d := by
  rw [List.getD_eq_getElem?_getD, List.getElem?_set_ne h, List.getD_eq_getElem?_getD]

structure TI (S : List (List Nat)) (n : Nat) (s : TS) : Prop where
  hS : ∀ u w, Edge S u w → w < n
  lr : s.rank.length = n
  ll : s.low.length = n
  lo : s.ons.length = n
  fnd : s.found + s.rank.count 0 = n
  stn : ∀ v ∈ s.st, v < n
  stM : ∀ v, os s v = true ↔ v ∈ s.st
  stR : s.st.Pairwise (fun a b => rk s a < rk s b)
  stP : ∀ v ∈ s.st, 0 < rk s v
  rkF : ∀ v, rk s v ≤ s.found
  rkI : ∀ u v, 0 < rk s u → rk s u = rk s v → u = v
  caS : ∀ f ∈ s.calls, f.1 ∈ s.st ∧ f.2 ≤ (scs S f.1).length
  caR : s.calls.Pairwise (fun a b => rk s a.1 < rk s b.1)
  cl : ∀ u, 0 < rk s u → os s u = false → ∀ w, Edge S u w → 0 < rk s w ∧ os s w = false
  pe : ∀ u ∈ s.st, (∀ f ∈ s.calls, f.1 ≠ u) → ∀ w, Edge S u w → 0 < rk s w
  pg : ∀ f ∈ s.calls, ∀ w ∈ (scs S f.1).take f.2, 0 < rk s w
  gE : ∀ f ∈ s.calls, ∀ u ∈ s.st, rk s f.1 ≤ rk s u → Reach S f.1 u
  gF : ∀ u ∈ s.st, ∃ f ∈ s.calls, rk s f.1 ≤ rk s u ∧ Reach S u f.1
  gG : ∀ f ∈ s.calls, lw s f.1 ≤ rk s f.1 ∧ ∃ x ∈ s.st, rk s x = lw s f.1 ∧ Reach S f.1 x
  gH : ∀ f ∈ s.calls, ∀ w ∈ (scs S f.1).take f.2, w ∈ s.st → lw s f.1 ≤ rk s w
  gI : ∀ f ∈ s.calls, ∀ u ∈ s.st, (∀ f' ∈ s.calls, f'.1 ≠ u) → rk s f.1 < rk s u → (∀ f' ∈ s.calls, rk s f.1 < rk s f'.1 → rk s u < rk s f'.1) → ∀ w, Edge S u w → w ∈ s.st → lw s f.1 ≤ rk s w

theorem rk_lt {n : Nat} {s : TS} (h : s.rank.length = n) (v : Nat) (hv : 0 < rk s v) : v < n := by
  by_cases c : v < n
  · exact c
  · unfold rk at hv
    rw [List.getD_eq_getElem?_getD, List.getElem?_eq_none (by omega)] at hv
    simp at hv

theorem count_set : ∀ (l : List Nat) (i v : Nat), i < l.length → l.getD i 0 = 0 → v ≠ 0 → (l.set i v).count 0 + 1 = l.count 0
  | [], i, v, h, _, _ => by simp at h
  | a :: l, 0, v, _, h0, hv => by
    have ha : a = 0 := by simpa using h0
    subst ha
    simp [hv]
  | a :: l, i + 1, v, h, h0, hv => by
    have ih := count_set l i v (by simpa using h) (by simpa using h0) hv
    simp only [List.set_cons_succ, List.count_cons]
    omega
/-- The open calls' ranks rise. -/
theorem calls_top {n : Nat} {s : TS} (h : TI S n s) (cs : List (Nat × Nat)) (v k : Nat) (e : s.calls = cs ++ [(v, k)]) (f : Nat × Nat) (hf : f ∈ s.calls) : rk s f.1 ≤ rk s v := by
  rw [e] at hf
  rcases List.mem_append.1 hf with hf' | hf'
  · have := h.caR
    rw [e, List.pairwise_append] at this
    exact Nat.le_of_lt (this.2.2 f hf' (v, k) (by simp))
  · simp at hf'; rw [hf']; exact Nat.le_refl _

/-! ### a node is found -/
def disc (s : TS) (w : Nat) : TS :=
  { rank := s.rank.set w (s.found + 1), low := s.low.set w (s.found + 1), ons := s.ons.set w true, st := s.st ++ [w], calls := s.calls ++ [(w, 0)], found := s.found + 1 }

/-- 'w' is white, and is either a root (no call is open), or the newest edge of the top call leads to it. 's' is the state in which the top call has counted that edge: all but 'the counted edges' targets are found' holds of it. -/
theorem disc_ok {n : Nat} {s s0 : TS} {w : Nat} (h : TI S n s0) (hw : w < n) (h0 : rk s0 w = 0)
    (er : s.rank = s0.rank) (el : s.low = s0.low) (eo : s.ons = s0.ons) (est : s.st = s0.st) (ef : s.found = s0.found)
    (hc : (s.calls = [] ∧ s0.calls = []) ∨ ∃ cs v k, s0.calls = cs ++ [(v, k)] ∧ s.calls = cs ++ [(v, k + 1)] ∧ (scs S v)[k]? = some w) : TI S n (disc s w) := by
  have hk : ∀ v, rk s v = rk s0 v := fun v => by unfold rk; rw [er]
  have hwr : w < s.rank.length := by rw [er, h.lr]; exact hw
  have hwl : w < s.low.length := by rw [el, h.ll]; exact hw
  have hwo : w < s.ons.length := by rw [eo, h.lo]; exact hw
  have rw1 : rk (disc s w) w = s0.found + 1 := by unfold rk disc; rw [getD_set_same _ _ _ _ hwr, ef]
  have rw2 : ∀ v, v ≠ w → rk (disc s w) v = rk s0 v := fun v hv => by unfold rk disc; rw [getD_set_ne _ _ _ _ _ (fun e => hv e.symm), er]
  have lw1 : lw (disc s w) w = s0.found + 1 := by unfold lw disc; rw [getD_set_same _ _ _ _ hwl, ef]
  have lw2 : ∀ v, v ≠ w → lw (disc s w) v = lw s0 v := fun v hv => by unfold lw disc; rw [getD_set_ne _ _ _ _ _ (fun e => hv e.symm), el]
  have os1 : os (disc s w) w = true := by unfold os disc; rw [getD_set_same _ _ _ _ hwo]
  have os2 : ∀ v, v ≠ w → os (disc s w) v = os s0 v := fun v hv => by unfold os disc; rw [getD_set_ne _ _ _ _ _ (fun e => hv e.symm), eo]
  have est' : (disc s w).st = s0.st ++ [w] := by unfold disc; rw [est]
  have wns : w ∉ s0.st := fun hm => by have := h.stP w hm; omega
  have nst : ∀ v ∈ s0.st, v ≠ w := fun v hv e => wns (e ▸ hv)
  have mono : ∀ v, 0 < rk s0 v → 0 < rk (disc s w) v := fun v hv => by
    by_cases e : v = w
    · rw [e, rw1]; omega
    · rw [rw2 v e]; exact hv
  have top : ∀ v ∈ s0.st, rk (disc s w) v < s0.found + 1 := fun v hv => by
    rw [rw2 v (nst v hv)]; have := h.rkF v; omega
  -- the open calls: each is an elder one, its count raised by one at most (and then by the edge to w), or the new one
  have calls' : ∀ f ∈ (disc s w).calls, (f = (w, 0)) ∨ ∃ f0 ∈ s0.calls, f.1 = f0.1 ∧ (f.2 = f0.2 ∨ (f.2 = f0.2 + 1 ∧ (scs S f0.1)[f0.2]? = some w)) := by
    intro f hf
    have hf' : f ∈ s.calls ++ [(w, 0)] := hf
    rcases List.mem_append.1 hf' with hf' | hf'
    · right
      rcases hc with ⟨e, _⟩ | ⟨cs, v, k, e0, e1, e2⟩
      · rw [e] at hf'; simp at hf'
      · rw [e1] at hf'
        rcases List.mem_append.1 hf' with hf'' | hf''
        · exact ⟨f, by rw [e0]; simp [hf''], rfl, .inl rfl⟩
        · simp at hf''
          exact ⟨(v, k), by rw [e0]; simp, by rw [hf''], .inr ⟨by rw [hf''], e2⟩⟩
    · left; simpa using hf'
  have take' : ∀ f0 : Nat × Nat, ∀ f : Nat × Nat, f.1 = f0.1 → (f.2 = f0.2 ∨ (f.2 = f0.2 + 1 ∧ (scs S f0.1)[f0.2]? = some w)) → ∀ x ∈ (scs S f.1).take f.2, x ∈ (scs S f0.1).take f0.2 ∨ x = w := by
    intro f0 f e1 e2 x hx
    rw [e1] at hx
    rcases e2 with e2 | ⟨e2, e3⟩
    · rw [e2] at hx; exact .inl hx
    · obtain ⟨hlt, e4⟩ := List.getElem?_eq_some_iff.1 e3
      rw [e2, List.take_succ_eq_append_getElem hlt, List.mem_append] at hx
      rcases hx with hx | hx
      · exact .inl hx
      · right; simp at hx; rw [hx, e4]
  have old_call : ∀ f0 ∈ s0.calls, ∃ f ∈ (disc s w).calls, f.1 = f0.1 := by
    intro f0 hf0
    rcases hc with ⟨_, e⟩ | ⟨cs, v, k, e0, e1, e2⟩
    · rw [e] at hf0; simp at hf0
    · rw [e0] at hf0
      rcases List.mem_append.1 hf0 with hf' | hf'
      · exact ⟨f0, by show f0 ∈ s.calls ++ [(w, 0)]; rw [e1]; simp [hf'], rfl⟩
      · simp at hf'
        exact ⟨(v, k + 1), by show (v, k + 1) ∈ s.calls ++ [(w, 0)]; rw [e1]; simp, by rw [hf']⟩
  have new_call : (w, 0) ∈ (disc s w).calls := by show (w, 0) ∈ s.calls ++ [(w, 0)]; simp
  -- the top call leads to w; so does every open call
  have gray_w : ∀ f0 ∈ s0.calls, Reach S f0.1 w := by
    intro f0 hf0
    rcases hc with ⟨_, e⟩ | ⟨cs, v, k, e0, e1, e2⟩
    · rw [e] at hf0; simp at hf0
    · have hv : (v, k) ∈ s0.calls := by rw [e0]; simp
      have hle : rk s0 f0.1 ≤ rk s0 v := by
        rw [e0] at hf0
        rcases List.mem_append.1 hf0 with hf' | hf'
        · have := h.caR
          rw [e0, List.pairwise_append] at this
          exact Nat.le_of_lt (this.2.2 f0 hf' (v, k) (by simp))
        · simp at hf'; rw [hf']; exact Nat.le_refl _
      have hr := h.gE f0 hf0 v (h.caS (v, k) hv).1 hle
      have he : Edge S v w := List.mem_of_getElem? e2
      exact hr.trans (Reach.edge he)
  have lowle : ∀ f0 ∈ s0.calls, lw (disc s w) f0.1 ≤ s0.found + 1 := fun f0 hf0 => by
    have hm := (h.caS f0 hf0).1
    rw [lw2 _ (nst _ hm)]
    have := (h.gG f0 hf0).1
    have := h.rkF f0.1
    omega
  refine
    { hS := h.hS, lr := by unfold disc; rw [List.length_set, er, h.lr], ll := by unfold disc; rw [List.length_set, el, h.ll], lo := by unfold disc; rw [List.length_set, eo, h.lo]
      fnd := ?_, stn := ?_, stM := ?_, stR := ?_, stP := ?_, rkF := ?_, rkI := ?_, caS := ?_, caR := ?_, cl := ?_, pe := ?_, pg := ?_, gE := ?_, gF := ?_, gG := ?_, gH := ?_, gI := ?_ }
  · have e1 := count_set s.rank w (s.found + 1) hwr (by rw [er]; exact h0) (by omega)
    have e2 := h.fnd
    show s.found + 1 + (s.rank.set w (s.found + 1)).count 0 = n
    rw [er] at e1 ⊢
    rw [ef] at e1 ⊢
    omega
  · intro v hv
    rw [est'] at hv
    rcases List.mem_append.1 hv with hv | hv
    · exact h.stn v hv
    · simp at hv; rw [hv]; exact hw
  · intro v
    rw [est', List.mem_append]
    by_cases e : v = w
    · rw [e, os1]; simp
    · rw [os2 v e, h.stM v]; simp [e]
  · rw [est', List.pairwise_append]
    refine ⟨h.stR.imp_of_mem fun {a b} ha hb hab => ?_, by simp, ?_⟩
    · rw [rw2 a (nst a ha), rw2 b (nst b hb)]; exact hab
    · intro a ha b hb
      simp at hb
      rw [hb, rw1]; exact top a ha
  · intro v hv
    rw [est'] at hv
    rcases List.mem_append.1 hv with hv | hv
    · exact mono v (h.stP v hv)
    · simp at hv; rw [hv, rw1]; omega
  · intro v
    show _ ≤ s.found + 1
    rw [ef]
    by_cases e : v = w
    · rw [e, rw1]; exact Nat.le_refl _
    · rw [rw2 v e]; have := h.rkF v; omega
  · intro u v hu huv
    by_cases e : u = w
    · by_cases e2 : v = w
      · rw [e, e2]
      · rw [e, rw1, rw2 v e2] at huv; have := h.rkF v; omega
    · by_cases e2 : v = w
      · rw [e2, rw1, rw2 u e] at huv; have := h.rkF u; omega
      · rw [rw2 u e] at hu huv; rw [rw2 v e2] at huv; exact h.rkI u v hu huv
  · intro f hf
    rcases calls' f hf with e | ⟨f0, hf0, e1, e2⟩
    · rw [e, est']; simp
    · obtain ⟨a1, a2⟩ := h.caS f0 hf0
      refine ⟨by rw [est', e1]; simp [a1], ?_⟩
      rw [e1]
      rcases e2 with e2 | ⟨e2, e3⟩
      · omega
      · have := (List.getElem?_eq_some_iff.1 e3).1; omega
  · show (s.calls ++ [(w, 0)]).Pairwise _
    rw [List.pairwise_append]
    refine ⟨?_, by simp, ?_⟩
    · rcases hc with ⟨e, _⟩ | ⟨cs, v, k, e0, e1, e2⟩
      · rw [e]; exact List.Pairwise.nil
      · have hR := h.caR
        have hst : ∀ f ∈ cs ++ [(v, k)], f.1 ∈ s0.st := fun f hf => (h.caS f (by rw [e0]; exact hf)).1
        rw [e0, List.pairwise_append] at hR
        rw [e1, List.pairwise_append]
        refine ⟨hR.1.imp_of_mem fun {a b} ha hb hab => ?_, by simp, ?_⟩
        · rw [rw2 _ (nst _ (hst a (by simp [ha]))), rw2 _ (nst _ (hst b (by simp [hb])))]; exact hab
        · intro a ha b hb
          simp at hb
          rw [hb, rw2 _ (nst _ (hst a (by simp [ha]))), rw2 _ (nst _ (hst (v, k) (by simp)))]
          exact hR.2.2 a ha (v, k) (by simp)
    · intro a ha b hb
      simp at hb
      rw [hb, rw1]
      rcases calls' a (by show a ∈ s.calls ++ [(w, 0)]; simp [ha]) with e | ⟨f0, hf0, e1, _⟩
      · exfalso
        rcases hc with ⟨e', _⟩ | ⟨cs, v, k, e0, e1, e2⟩
        · rw [e'] at ha; simp at ha
        · have hst : a.1 ∈ s0.st := by
            rw [e1] at ha
            rcases List.mem_append.1 ha with ha | ha
            · exact (h.caS a (by rw [e0]; simp [ha])).1
            · simp at ha; rw [ha]; exact (h.caS (v, k) (by rw [e0]; simp)).1
          rw [e] at hst
          exact wns hst
      · rw [e1]; exact top _ (h.caS f0 hf0).1
  · intro u hu ho x hx
    have e : u ≠ w := fun e => by rw [e, os1] at ho; cases ho
    rw [rw2 u e] at hu
    rw [os2 u e] at ho
    obtain ⟨a1, a2⟩ := h.cl u hu ho x hx
    have e2 : x ≠ w := fun e => by rw [e] at a1; omega
    rw [rw2 x e2, os2 x e2]
    exact ⟨a1, a2⟩
  · intro u hu hng x hx
    rw [est'] at hu
    rcases List.mem_append.1 hu with hu | hu
    · refine mono x (h.pe u hu (fun f0 hf0 e => ?_) x hx)
      obtain ⟨f, hf, ef⟩ := old_call f0 hf0
      exact hng f hf (by rw [ef, e])
    · simp at hu; exact absurd hu.symm (hng (w, 0) new_call)
  · intro f hf x hx
    rcases calls' f hf with e | ⟨f0, hf0, e1, e2⟩
    · rw [e] at hx; simp at hx
    · rcases take' f0 f e1 e2 x hx with h1 | h1
      · exact mono x (h.pg f0 hf0 x h1)
      · rw [h1, rw1]; omega
  · intro f hf u hu hle
    rw [est'] at hu
    rcases calls' f hf with e | ⟨f0, hf0, e1, _⟩
    · rw [e] at hle ⊢
      rcases List.mem_append.1 hu with hu | hu
      · rw [rw1] at hle; have := top u hu; omega
      · simp at hu; rw [hu]; exact Reach.refl _
    · rw [e1] at hle ⊢
      rcases List.mem_append.1 hu with hu | hu
      · rw [rw2 _ (nst _ (h.caS f0 hf0).1), rw2 _ (nst _ hu)] at hle
        exact h.gE f0 hf0 u hu hle
      · simp at hu; rw [hu]; exact gray_w f0 hf0
  · intro u hu
    rw [est'] at hu
    rcases List.mem_append.1 hu with hu | hu
    · obtain ⟨f0, hf0, a1, a2⟩ := h.gF u hu
      obtain ⟨f, hf, ef⟩ := old_call f0 hf0
      refine ⟨f, hf, ?_, by rw [ef]; exact a2⟩
      rw [ef, rw2 _ (nst _ (h.caS f0 hf0).1), rw2 _ (nst _ hu)]; exact a1
    · simp at hu
      exact ⟨(w, 0), new_call, by rw [hu]; exact Nat.le_refl _, by rw [hu]; exact Reach.refl _⟩
  · intro f hf
    rcases calls' f hf with e | ⟨f0, hf0, e1, _⟩
    · rw [e]
      refine ⟨by rw [lw1, rw1]; exact Nat.le_refl _, w, by rw [est']; simp, by rw [lw1, rw1], Reach.refl _⟩
    · obtain ⟨a1, x, a2, a3, a4⟩ := h.gG f0 hf0
      have hn := nst _ (h.caS f0 hf0).1
      rw [e1, lw2 _ hn, rw2 _ hn]
      exact ⟨a1, x, by rw [est']; simp [a2], by rw [rw2 x (nst x a2)]; exact a3, a4⟩
  · intro f hf x hx hxs
    rcases calls' f hf with e | ⟨f0, hf0, e1, e2⟩
    · rw [e] at hx; simp at hx
    · have hn := nst _ (h.caS f0 hf0).1
      rw [est'] at hxs
      rw [e1]
      rcases List.mem_append.1 hxs with hxs | hxs
      · rcases take' f0 f e1 e2 x hx with h1 | h1
        · rw [lw2 _ hn, rw2 x (nst x hxs)]; exact h.gH f0 hf0 x h1 hxs
        · exact absurd h1 (nst x hxs)
      · simp at hxs; rw [hxs, rw1]; exact lowle f0 hf0
  · intro f hf u hu hng hlt hbet x hx hxs
    rw [est'] at hu hxs
    rcases List.mem_append.1 hu with hu | hu
    · rcases calls' f hf with e | ⟨f0, hf0, e1, e2⟩
      · rw [e, rw1] at hlt; have := top u hu; omega
      · have hn := nst _ (h.caS f0 hf0).1
        rw [e1] at hlt hbet ⊢
        rcases List.mem_append.1 hxs with hxs | hxs
        · rw [lw2 _ hn, rw2 x (nst x hxs)]
          rw [rw2 _ hn, rw2 _ (nst u hu)] at hlt
          refine h.gI f0 hf0 u hu (fun f1 hf1 e => ?_) hlt (fun f1 hf1 hl1 => ?_) x hx hxs
          · obtain ⟨f', hf', ef'⟩ := old_call f1 hf1
            exact hng f' hf' (by rw [ef', e])
          · obtain ⟨f', hf', ef'⟩ := old_call f1 hf1
            have hn1 := nst _ (h.caS f1 hf1).1
            have := hbet f' hf' (by rw [ef', rw2 _ hn, rw2 _ hn1]; exact hl1)
            rw [ef', rw2 _ hn1, rw2 _ (nst u hu)] at this
            exact this
        · simp at hxs; rw [hxs, rw1]; exact lowle f0 hf0
    · simp at hu; exact absurd hu.symm (hng (w, 0) new_call)
end Go.Proofs.Qxb6601646a.Tj
