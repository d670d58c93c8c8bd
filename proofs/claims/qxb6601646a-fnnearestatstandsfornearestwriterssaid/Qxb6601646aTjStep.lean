import Derived.Test.Qxb6601646aTjPlain
namespace Go.Proofs.Qxb6601646a.Tj
variable {S : List (List Nat)}

/-! ### an edge to a node that is found already -/
theorem edge_ok {n : Nat} {s : TS} {cs : List (Nat × Nat)} {v k w : Nat} (h : TI S n s) (ec : s.calls = cs ++ [(v, k)]) (ew : (scs S v)[k]? = some w) (hw : 0 < rk s w) :
    TI S n { s with calls := cs ++ [(v, k + 1)], low := if os s w then s.low.set v (min (lw s v) (rk s w)) else s.low } := by
  have hvk : (v, k) ∈ s.calls := by rw [ec]; simp
  have hvs := (h.caS _ hvk).1
  have hvn : v < n := h.stn v hvs
  have hvl : v < s.low.length := by rw [h.ll]; exact hvn
  have hE : Edge S v w := List.mem_of_getElem? ew
  obtain ⟨hkl, ekw⟩ := List.getElem?_eq_some_iff.1 ew
  generalize hs' : ({ s with calls := cs ++ [(v, k + 1)], low := if os s w then s.low.set v (min (lw s v) (rk s w)) else s.low } : TS) = s'
  have r1 : ∀ x, rk s' x = rk s x := fun x => by rw [← hs']; rfl
  have o1 : ∀ x, os s' x = os s x := fun x => by rw [← hs']; rfl
  have st1 : s'.st = s.st := by rw [← hs']
  have l1 : ∀ x, x ≠ v → lw s' x = lw s x := fun x hx => by
    rw [← hs']
    unfold lw
    by_cases c : os s w = true
    · simp only [c, if_true]; exact getD_set_ne _ _ _ _ _ (fun e => hx e.symm)
    · simp only [c, if_false, Bool.false_eq_true]
  have l2 : os s w = true → lw s' v = min (lw s v) (rk s w) := fun c => by
    rw [← hs']
    simp only [lw, c, if_true]; exact getD_set_same _ _ _ _ hvl
  have l3 : os s w = false → lw s' v = lw s v := fun c => by
    rw [← hs']
    simp only [lw, c, if_false, Bool.false_eq_true]
  have lle : lw s' v ≤ lw s v := by
    cases c : os s w
    · rw [l3 c]; exact Nat.le_refl _
    · rw [l2 c]; exact Nat.min_le_left _ _
  have lle' : ∀ x, lw s' x ≤ lw s x := fun x => by
    by_cases e : x = v
    · rw [e]; exact lle
    · rw [l1 x e]; exact Nat.le_refl _
  have c1 : ∀ f ∈ s'.calls, (f ∈ cs ∧ f ∈ s.calls) ∨ f = (v, k + 1) := by
    intro f hf
    rw [← hs'] at hf
    rcases List.mem_append.1 hf with hf | hf
    · exact .inl ⟨hf, by rw [ec]; simp [hf]⟩
    · right; simpa using hf
  have c2 : ∀ f ∈ s.calls, ∃ f' ∈ s'.calls, f'.1 = f.1 := by
    intro f hf
    rw [ec] at hf
    rcases List.mem_append.1 hf with hf | hf
    · exact ⟨f, by rw [← hs']; simp [hf], rfl⟩
    · simp at hf; exact ⟨(v, k + 1), by rw [← hs']; simp, by rw [hf]⟩
  have c3 : ∀ f ∈ s'.calls, ∃ f0 ∈ s.calls, f0.1 = f.1 := by
    intro f hf
    rcases c1 f hf with ⟨_, h1⟩ | h1
    · exact ⟨f, h1, rfl⟩
    · exact ⟨(v, k), hvk, by rw [h1]⟩
  have csv : ∀ f ∈ cs, f.1 ≠ v := by
    intro f hf e
    have := h.caR
    rw [ec, List.pairwise_append] at this
    have := this.2.2 f hf (v, k) (by simp)
    rw [e] at this
    exact Nat.lt_irrefl _ this
  refine
    { hS := h.hS, lr := by rw [← hs']; exact h.lr, ll := by rw [← hs']; show (if os s w = true then _ else _ : List Nat).length = n; split <;> simp [h.ll], lo := by rw [← hs']; exact h.lo
      fnd := by rw [← hs']; exact h.fnd, stn := by rw [st1]; exact h.stn, stM := fun x => by rw [o1, st1]; exact h.stM x
      stR := by rw [st1]; exact h.stR.imp fun {a b} hab => by rw [r1, r1]; exact hab
      stP := fun x hx => by rw [r1]; rw [st1] at hx; exact h.stP x hx
      rkF := fun x => by rw [r1, ← hs']; exact h.rkF x
      rkI := fun a b ha hab => by rw [r1] at ha hab; rw [r1] at hab; exact h.rkI a b ha hab
      caS := ?_, caR := ?_
      cl := fun a ha hb x hx => by rw [r1] at ha; rw [o1] at hb; rw [r1, o1]; exact h.cl a ha hb x hx
      pe := ?_, pg := ?_, gE := ?_, gF := ?_, gG := ?_, gH := ?_, gI := ?_ }
  · intro f hf
    rw [st1]
    rcases c1 f hf with ⟨_, h1⟩ | h1
    · exact h.caS f h1
    · rw [h1]; exact ⟨hvs, Nat.succ_le_of_lt hkl⟩
  · have hR := h.caR
    rw [ec, List.pairwise_append] at hR
    have : s'.calls = cs ++ [(v, k + 1)] := by rw [← hs']
    rw [this, List.pairwise_append]
    refine ⟨hR.1.imp fun {a b} hab => by rw [r1, r1]; exact hab, by simp, ?_⟩
    intro a ha b hb
    simp at hb
    rw [hb, r1, r1]
    exact hR.2.2 a ha (v, k) (by simp)
  · intro u hu hng x hx
    rw [st1] at hu
    rw [r1]
    refine h.pe u hu (fun f hf e => ?_) x hx
    obtain ⟨f', hf', ef⟩ := c2 f hf
    exact hng f' hf' (by rw [ef, e])
  · intro f hf x hx
    rw [r1]
    rcases c1 f hf with ⟨_, h1⟩ | h1
    · exact h.pg f h1 x hx
    · rw [h1] at hx
      rw [show ((v, k + 1) : Nat × Nat).2 = k + 1 from rfl, List.take_succ_eq_append_getElem hkl, List.mem_append] at hx
      rcases hx with hx | hx
      · exact h.pg _ hvk x hx
      · simp at hx; rw [hx, ekw]; exact hw
  · intro f hf u hu hle
    rw [st1] at hu
    rw [r1, r1] at hle
    obtain ⟨f0, hf0, e⟩ := c3 f hf
    rw [← e] at hle ⊢
    exact h.gE f0 hf0 u hu hle
  · intro u hu
    rw [st1] at hu
    obtain ⟨f, hf, a1, a2⟩ := h.gF u hu
    obtain ⟨f', hf', e⟩ := c2 f hf
    exact ⟨f', hf', by rw [r1, r1, e]; exact a1, by rw [e]; exact a2⟩
  · intro f hf
    rw [st1]
    rcases c1 f hf with ⟨h0, h1⟩ | h1
    · obtain ⟨a1, x, a2, a3, a4⟩ := h.gG f h1
      rw [l1 _ (csv f h0), r1]
      exact ⟨a1, x, a2, by rw [r1]; exact a3, a4⟩
    · rw [h1]
      obtain ⟨a1, x, a2, a3, a4⟩ := h.gG _ hvk
      refine ⟨by rw [r1]; exact Nat.le_trans lle a1, ?_⟩
      cases c : os s w
      · exact ⟨x, a2, by rw [r1, l3 c]; exact a3, a4⟩
      · by_cases hm : lw s v ≤ rk s w
        · exact ⟨x, a2, by rw [r1, l2 c, Nat.min_eq_left hm]; exact a3, a4⟩
        · exact ⟨w, (h.stM w).1 c, by rw [r1, l2 c, Nat.min_eq_right (by omega)], Reach.edge hE⟩
  · intro f hf x hx hxs
    rw [st1] at hxs
    rw [r1]
    rcases c1 f hf with ⟨h0, h1⟩ | h1
    · rw [l1 _ (csv f h0)]; exact h.gH f h1 x hx hxs
    · rw [h1] at hx ⊢
      rw [show ((v, k + 1) : Nat × Nat).2 = k + 1 from rfl, List.take_succ_eq_append_getElem hkl, List.mem_append] at hx
      rcases hx with hx | hx
      · exact Nat.le_trans lle (h.gH _ hvk x hx hxs)
      · simp at hx
        have c : os s w = true := (h.stM w).2 (by rw [← ekw, ← hx]; exact hxs)
        rw [hx, ekw]
        show lw s' v ≤ rk s w
        rw [l2 c]; exact Nat.min_le_right _ _
  · intro f hf u hu hng hlt hbet x hx hxs
    rw [st1] at hu hxs
    rw [r1]
    rw [r1, r1] at hlt
    obtain ⟨f0, hf0, e⟩ := c3 f hf
    rw [← e] at hlt ⊢
    refine Nat.le_trans (lle' _) (h.gI f0 hf0 u hu (fun f1 hf1 e1 => ?_) hlt (fun f1 hf1 hl1 => ?_) x hx hxs)
    · obtain ⟨f', hf', ef⟩ := c2 f1 hf1
      exact hng f' hf' (by rw [ef, e1])
    · obtain ⟨f', hf', ef⟩ := c2 f1 hf1
      have := hbet f' hf' (by rw [r1, r1, ef, ← e]; exact hl1)
      rw [r1, r1, ef] at this
      exact this

/-! ### a call ends -/
/-- The nodes of the top call's part of the stack lead back to it, and it to them. -/
theorem seg_scc {n : Nat} {s : TS} {cs : List (Nat × Nat)} {v k : Nat} (h : TI S n s) (ec : s.calls = cs ++ [(v, k)]) (u : Nat) (hu : u ∈ s.st) (hr : rk s v ≤ rk s u) : Reach S v u ∧ Reach S u v := by
  have hvk : (v, k) ∈ s.calls := by rw [ec]; simp
  refine ⟨h.gE _ hvk u hu hr, ?_⟩
  obtain ⟨f, hf, _, a2⟩ := h.gF u hu
  exact a2.trans (h.gE f hf v (h.caS _ hvk).1 (calls_top h cs v k ec f hf))

/-- Where the top call's low is its own rank, its part of the stack and the finished nodes are closed. -/
theorem seg_closed {n : Nat} {s : TS} {cs : List (Nat × Nat)} {v : Nat} (h : TI S n s) (ec : s.calls = cs ++ [(v, (scs S v).length)]) (hl : lw s v = rk s v) :
    ∀ a b, ((a ∈ s.st ∧ rk s v ≤ rk s a) ∨ (0 < rk s a ∧ os s a = false)) → Edge S a b → ((b ∈ s.st ∧ rk s v ≤ rk s b) ∨ (0 < rk s b ∧ os s b = false)) := by
  have hvk : (v, (scs S v).length) ∈ s.calls := by rw [ec]; simp
  intro a b ha hab
  rcases ha with ⟨ha1, ha2⟩ | ⟨ha1, ha2⟩
  · have key : 0 < rk s b ∧ (b ∈ s.st → rk s v ≤ rk s b) := by
      by_cases e : a = v
      · subst e
        have hb : b ∈ (scs S a).take (scs S a).length := by rw [List.take_length]; exact hab
        exact ⟨h.pg _ hvk b hb, fun hbs => by have := h.gH _ hvk b hb hbs; rw [← hl]; exact this⟩
      · have hng : ∀ f ∈ s.calls, f.1 ≠ a := by
          intro f hf e2
          have := calls_top h cs v _ ec f hf
          rw [e2] at this
          exact e (h.rkI a v (h.stP a ha1) (by omega))
        have hlt : rk s v < rk s a := by
          rcases Nat.lt_or_eq_of_le ha2 with h3 | h3
          · exact h3
          · exact absurd (h.rkI a v (h.stP a ha1) h3.symm) e
        refine ⟨h.pe a ha1 hng b hab, fun hbs => ?_⟩
        have := h.gI _ hvk a ha1 hng hlt (fun f hf hlf => by have := calls_top h cs v _ ec f hf; exact absurd hlf (by show ¬ rk s v < _; omega)) b hab hbs
        rw [← hl]; exact this
    rcases Bool.eq_false_or_eq_true (os s b) with ob | ob
    · have hbs := (h.stM b).1 ob
      exact .inl ⟨hbs, key.2 hbs⟩
    · exact .inr ⟨key.1, ob⟩
  · exact .inr (h.cl a ha1 ha2 b hab)

/-- Where the top call's low is its own rank, whatever it leads to and leads back to it lies in its part of the stack. -/
theorem seg_all {n : Nat} {s : TS} {cs : List (Nat × Nat)} {v : Nat} (h : TI S n s) (ec : s.calls = cs ++ [(v, (scs S v).length)]) (hl : lw s v = rk s v) (x : Nat) (h1 : Reach S v x) (h2 : Reach S x v) : x ∈ s.st ∧ rk s v ≤ rk s x := by
  have hvk : (v, (scs S v).length) ∈ s.calls := by rw [ec]; simp
  have hvs := (h.caS _ hvk).1
  have ho : os s v = true := (h.stM v).2 hvs
  have hx := h1.closed _ (seg_closed h ec hl) (.inl ⟨hvs, Nat.le_refl _⟩)
  rcases hx with hx | hx
  · exact hx
  · exfalso
    have hd : ∀ a b, (0 < rk s a ∧ os s a = false) → Edge S a b → (0 < rk s b ∧ os s b = false) := fun a b ha hab => h.cl a ha.1 ha.2 b hab
    have := h2.closed _ hd hx
    rw [ho] at this
    exact absurd this.2 (by decide)

/-- The low of the call below the one that ends. -/
def lower (s : TS) (cs : List (Nat × Nat)) (v : Nat) : List Nat :=
  match cs.getLast? with
  | some f => s.low.set f.1 (min (lw s f.1) (lw s v))
  | none => s.low

/-- The top call ends; its node stays on the stack. -/
theorem end_black {n : Nat} {s : TS} {cs : List (Nat × Nat)} {v : Nat} (h : TI S n s) (ec : s.calls = cs ++ [(v, (scs S v).length)]) (hl : lw s v ≠ rk s v) :
    TI S n { s with calls := cs, low := lower s cs v } := by
  have hvk : (v, (scs S v).length) ∈ s.calls := by rw [ec]; simp
  have hvs := (h.caS _ hvk).1
  obtain ⟨gv1, gx, gv2, gv3, gv4⟩ := h.gG _ hvk
  have hlt : lw s v < rk s v := by
    have : lw s v ≤ rk s v := gv1
    omega
  have csm : ∀ f ∈ cs, f ∈ s.calls := fun f hf => by rw [ec]; simp [hf]
  have hR := h.caR
  rw [ec, List.pairwise_append] at hR
  have csl : ∀ f ∈ cs, rk s f.1 < rk s v := fun f hf => hR.2.2 f hf (v, (scs S v).length) (by simp)
  have csv : ∀ f ∈ cs, f.1 ≠ v := fun f hf e => by have := csl f hf; rw [e] at this; exact Nat.lt_irrefl _ this
  -- the call below
  obtain ⟨cs', p, kp, ecs⟩ : ∃ cs' p kp, cs = cs' ++ [(p, kp)] := by
    obtain ⟨f, hf, a1, _⟩ := h.gF gx gv2
    have : f ∈ cs := by
      rw [ec] at hf
      rcases List.mem_append.1 hf with hf | hf
      · exact hf
      · simp at hf
        rw [hf] at a1
        have : rk s v ≤ rk s gx := a1
        have e3 : rk s gx = lw s v := gv3
        omega
    have hne : cs ≠ [] := List.ne_nil_of_mem this
    exact ⟨cs.dropLast, (cs.getLast hne).1, (cs.getLast hne).2, (List.dropLast_concat_getLast hne).symm⟩
  have hpk : (p, kp) ∈ cs := by rw [ecs]; simp
  have hps := (h.caS _ (csm _ hpk)).1
  have hpl : p < s.low.length := by rw [h.ll]; exact h.stn p hps
  have elow : lower s cs v = s.low.set p (min (lw s p) (lw s v)) := by
    unfold lower
    rw [ecs, List.getLast?_concat]
  have ptop : ∀ f ∈ cs, rk s f.1 ≤ rk s p := by
    intro f hf
    rw [ecs] at hf
    rcases List.mem_append.1 hf with hf' | hf'
    · have := hR.1
      rw [ecs, List.pairwise_append] at this
      exact Nat.le_of_lt (this.2.2 f hf' (p, kp) (by simp))
    · simp at hf'; rw [hf']; exact Nat.le_refl _
  rw [elow]
  generalize hs' : ({ s with calls := cs, low := s.low.set p (min (lw s p) (lw s v)) } : TS) = s'
  have r1 : ∀ x, rk s' x = rk s x := fun x => by rw [← hs']; rfl
  have o1 : ∀ x, os s' x = os s x := fun x => by rw [← hs']; rfl
  have st1 : s'.st = s.st := by rw [← hs']
  have ca1 : s'.calls = cs := by rw [← hs']
  have l1 : ∀ x, x ≠ p → lw s' x = lw s x := fun x hx => by rw [← hs']; unfold lw; exact getD_set_ne _ _ _ _ _ (fun e => hx e.symm)
  have l2 : lw s' p = min (lw s p) (lw s v) := by rw [← hs']; simp only [lw]; exact getD_set_same _ _ _ _ hpl
  have lle : ∀ x, lw s' x ≤ lw s x := fun x => by
    by_cases e : x = p
    · rw [e, l2]; exact Nat.min_le_left _ _
    · rw [l1 x e]; exact Nat.le_refl _
  have only_p : ∀ f ∈ cs, (∀ f' ∈ cs, rk s f.1 < rk s f'.1 → rk s v < rk s f'.1) → f.1 = p := by
    intro f hf hb
    have h1 := ptop f hf
    rcases Nat.lt_or_eq_of_le h1 with h2 | h2
    · have := hb (p, kp) hpk h2
      have := csl (p, kp) hpk
      exact absurd this (by show ¬ rk s p < rk s v; omega)
    · exact h.rkI f.1 p (h.stP _ (h.caS f (csm f hf)).1) h2
  refine
    { hS := h.hS, lr := by rw [← hs']; exact h.lr, ll := by rw [← hs']; show (s.low.set p _).length = n; rw [List.length_set]; exact h.ll, lo := by rw [← hs']; exact h.lo
      fnd := by rw [← hs']; exact h.fnd, stn := by rw [st1]; exact h.stn, stM := fun x => by rw [o1, st1]; exact h.stM x
      stR := by rw [st1]; exact h.stR.imp fun {a b} hab => by rw [r1, r1]; exact hab
      stP := fun x hx => by rw [r1]; rw [st1] at hx; exact h.stP x hx
      rkF := fun x => by rw [r1, ← hs']; exact h.rkF x
      rkI := fun a b ha hab => by rw [r1] at ha hab; rw [r1] at hab; exact h.rkI a b ha hab
      caS := fun f hf => by rw [ca1] at hf; rw [st1]; exact h.caS f (csm f hf)
      caR := by rw [ca1]; exact hR.1.imp fun {a b} hab => by rw [r1, r1]; exact hab
      cl := fun a ha hb x hx => by rw [r1] at ha; rw [o1] at hb; rw [r1, o1]; exact h.cl a ha hb x hx
      pe := ?_
      pg := fun f hf x hx => by rw [ca1] at hf; rw [r1]; exact h.pg f (csm f hf) x hx
      gE := fun f hf u hu hle => by rw [ca1] at hf; rw [st1] at hu; rw [r1, r1] at hle; exact h.gE f (csm f hf) u hu hle
      gF := ?_, gG := ?_
      gH := fun f hf x hx hxs => by rw [ca1] at hf; rw [st1] at hxs; rw [r1]; exact Nat.le_trans (lle _) (h.gH f (csm f hf) x hx hxs)
      gI := ?_ }
  · intro u hu hng x hx
    rw [st1] at hu
    rw [ca1] at hng
    rw [r1]
    by_cases e : u = v
    · subst e
      exact h.pg _ hvk x (by rw [List.take_length]; exact hx)
    · refine h.pe u hu (fun f hf e2 => ?_) x hx
      rw [ec] at hf
      rcases List.mem_append.1 hf with hf | hf
      · exact hng f hf e2
      · simp at hf; rw [hf] at e2; exact e e2.symm
  · have base : ∀ u ∈ s.st, rk s u < rk s v → ∃ f ∈ cs, rk s f.1 ≤ rk s u ∧ Reach S u f.1 := by
      intro u hu hlu
      obtain ⟨f, hf, a1, a2⟩ := h.gF u hu
      rw [ec] at hf
      rcases List.mem_append.1 hf with hf | hf
      · exact ⟨f, hf, a1, a2⟩
      · simp at hf; rw [hf] at a1; exact absurd a1 (by show ¬ rk s v ≤ rk s u; omega)
    intro u hu
    rw [st1] at hu
    rw [ca1]
    obtain ⟨f, hf, a1, a2⟩ := h.gF u hu
    rw [ec] at hf
    rcases List.mem_append.1 hf with hf | hf
    · exact ⟨f, hf, by rw [r1, r1]; exact a1, a2⟩
    · simp at hf
      rw [hf] at a1 a2
      obtain ⟨g, hg, b1, b2⟩ := base gx gv2 (by have e3 : rk s gx = lw s v := gv3; omega)
      refine ⟨g, hg, ?_, (a2.trans gv4).trans b2⟩
      rw [r1, r1]
      have e3 : rk s gx = lw s v := gv3
      have a3 : rk s v ≤ rk s u := a1
      omega
  · intro f hf
    rw [ca1] at hf
    rw [st1]
    obtain ⟨a1, x, a2, a3, a4⟩ := h.gG f (csm f hf)
    refine ⟨by rw [r1]; exact Nat.le_trans (lle _) a1, ?_⟩
    by_cases e : f.1 = p
    · rw [e] at a3 a4 ⊢
      rw [l2]
      by_cases hm : lw s p ≤ lw s v
      · exact ⟨x, a2, by rw [r1, Nat.min_eq_left hm]; exact a3, a4⟩
      · refine ⟨gx, gv2, by rw [r1, Nat.min_eq_right (by omega)]; exact gv3, ?_⟩
        exact (h.gE (p, kp) (csm _ hpk) v hvs (Nat.le_of_lt (csl _ hpk))).trans gv4
    · rw [l1 _ e]
      exact ⟨x, a2, by rw [r1]; exact a3, a4⟩
  · intro f hf u hu hng hlu hbet x hx hxs
    rw [ca1] at hf hng hbet
    rw [st1] at hu hxs
    rw [r1]
    rw [r1, r1] at hlu
    have hbet' : ∀ f' ∈ cs, rk s f.1 < rk s f'.1 → rk s u < rk s f'.1 := fun f' hf' hl' => by
      have := hbet f' hf' (by rw [r1, r1]; exact hl')
      rw [r1, r1] at this
      exact this
    by_cases e : u = v
    · subst e
      have ep := only_p f hf hbet'
      rw [ep, l2]
      exact Nat.le_trans (Nat.min_le_right _ _) (h.gH _ hvk x (by rw [List.take_length]; exact hx) hxs)
    · have hng' : ∀ f' ∈ s.calls, f'.1 ≠ u := by
        intro f' hf' e2
        rw [ec] at hf'
        rcases List.mem_append.1 hf' with hf' | hf'
        · exact hng f' hf' e2
        · simp at hf'; rw [hf'] at e2; exact e e2.symm
      by_cases huv : rk s u < rk s v
      · refine Nat.le_trans (lle _) (h.gI f (csm f hf) u hu hng' hlu (fun f' hf' hl' => ?_) x hx hxs)
        rw [ec] at hf'
        rcases List.mem_append.1 hf' with hf' | hf'
        · exact hbet' f' hf' hl'
        · simp at hf'; rw [hf']; exact huv
      · have hvu : rk s v < rk s u := by
          rcases Nat.lt_or_eq_of_le (Nat.le_of_not_lt huv) with h3 | h3
          · exact h3
          · exact absurd (h.rkI u v (h.stP u hu) h3.symm) e
        have ep := only_p f hf (fun f' hf' hl' => by
          have := hbet' f' hf' hl'
          have := csl f' hf'
          omega)
        rw [ep, l2]
        refine Nat.le_trans (Nat.min_le_right _ _) (h.gI _ hvk u hu hng' hvu (fun f' hf' hl' => ?_) x hx hxs)
        have := calls_top h cs v _ ec f' hf'
        exact absurd hl' (by show ¬ rk s v < _; omega)
end Go.Proofs.Qxb6601646a.Tj
