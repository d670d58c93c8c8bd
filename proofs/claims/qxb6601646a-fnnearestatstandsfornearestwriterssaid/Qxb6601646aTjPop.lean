import Derived.Test.Qxb6601646aTjStep
namespace Go.Proofs.Qxb6601646a.Tj
variable {S : List (List Nat)}

/-- The nodes of a component leave the stack. -/
def clr (o : List Bool) (c : List Nat) : List Bool := c.foldl (fun o w => o.set w false) o
theorem clr_length : ∀ (c : List Nat) (o : List Bool), (clr o c).length = o.length
  | [], _ => rfl
  | w :: c, o => by show (clr (o.set w false) c).length = _; rw [clr_length c]; exact List.length_set
theorem clr_append (c : List Nat) (w : Nat) (o : List Bool) : clr o (c ++ [w]) = (clr o c).set w false := by
  unfold clr; rw [List.foldl_append]; rfl
theorem set_false_getD (o : List Bool) (w x : Nat) : (o.set w false).getD x false = if x = w then false else o.getD x false := by
  by_cases e : x = w
  · subst e
    by_cases h : x < o.length
    · rw [getD_set_same _ _ _ _ h]; simp
    · rw [List.getD_eq_getElem?_getD, List.getElem?_eq_none (by rw [List.length_set]; omega)]; simp
  · rw [getD_set_ne _ _ _ _ _ (fun h => e h.symm), if_neg e]
theorem clr_getD : ∀ (c : List Nat) (o : List Bool) (x : Nat), (clr o c).getD x false = if x ∈ c then false else o.getD x false
  | [], o, x => by simp [clr]
  | w :: c, o, x => by
    show (clr (o.set w false) c).getD x false = _
    rw [clr_getD c, set_false_getD]
    by_cases h1 : x ∈ c
    · simp [h1]
    · by_cases h2 : x = w
      · simp [h2]
      · simp [h1, h2]

theorem lower_same {n : Nat} {s : TS} {cs : List (Nat × Nat)} {v k : Nat} (h : TI S n s) (ec : s.calls = cs ++ [(v, k)]) (hl : lw s v = rk s v) (x : Nat) : (lower s cs v).getD x 0 = lw s x := by
  unfold lower
  cases hg : cs.getLast? with
  | none => rfl
  | some f =>
    have hf : f ∈ cs := List.mem_of_getLast? hg
    have hR := h.caR
    rw [ec, List.pairwise_append] at hR
    have h1 := hR.2.2 f hf (v, k) (by simp)
    have h2 := (h.gG f (by rw [ec]; simp [hf])).1
    have e : min (lw s f.1) (lw s v) = lw s f.1 := Nat.min_eq_left (by
      have : rk s f.1 < rk s v := h1
      omega)
    show (s.low.set f.1 _).getD x 0 = _
    rw [e]
    by_cases ex : x = f.1
    · subst ex
      by_cases hx : f.1 < s.low.length
      · rw [getD_set_same _ _ _ _ hx]
      · rw [List.getD_eq_getElem?_getD, List.getElem?_eq_none (by rw [List.length_set]; omega)]
        unfold lw
        rw [List.getD_eq_getElem?_getD, List.getElem?_eq_none (by omega)]
    · rw [getD_set_ne _ _ _ _ _ (fun h => ex h.symm)]; rfl
theorem lower_length (s : TS) (cs : List (Nat × Nat)) (v : Nat) : (lower s cs v).length = s.low.length := by
  unfold lower
  split
  · exact List.length_set
  · rfl

/-- The stack, cut at the top call's node. -/
theorem st_cut {n : Nat} {s : TS} (h : TI S n s) (v : Nat) (pre post : List Nat) (es : s.st = pre ++ v :: post) : (∀ x ∈ pre, rk s x < rk s v) ∧ (∀ x ∈ v :: post, rk s v ≤ rk s x) := by
  have hR := h.stR
  rw [es, List.pairwise_append, List.pairwise_cons] at hR
  refine ⟨fun x hx => hR.2.2 x hx v (by simp), fun x hx => ?_⟩
  rcases List.mem_cons.1 hx with e | hx
  · rw [e]; exact Nat.le_refl _
  · exact Nat.le_of_lt (hR.2.1.1 x hx)

/-- The top call ends; its component leaves the stack. -/
theorem end_pop {n : Nat} {s : TS} {cs : List (Nat × Nat)} {v : Nat} {pre post : List Nat} (h : TI S n s) (ec : s.calls = cs ++ [(v, (scs S v).length)]) (hl : lw s v = rk s v) (es : s.st = pre ++ v :: post) :
    TI S n { s with calls := cs, low := lower s cs v, st := pre, ons := clr s.ons (v :: post) } := by
  have hvk : (v, (scs S v).length) ∈ s.calls := by rw [ec]; simp
  obtain ⟨cut1, cut2⟩ := st_cut h v pre post es
  have csm : ∀ f ∈ cs, f ∈ s.calls := fun f hf => by rw [ec]; simp [hf]
  have hR := h.caR
  rw [ec, List.pairwise_append] at hR
  have csl : ∀ f ∈ cs, rk s f.1 < rk s v := fun f hf => hR.2.2 f hf (v, (scs S v).length) (by simp)
  have inpre : ∀ x ∈ s.st, rk s x < rk s v → x ∈ pre := fun x hx hlt => by
    rw [es] at hx
    rcases List.mem_append.1 hx with hx | hx
    · exact hx
    · have := cut2 x hx; omega
  have ofpre : ∀ x ∈ pre, x ∈ s.st := fun x hx => by rw [es]; simp [hx]
  have ofpost : ∀ x ∈ v :: post, x ∈ s.st := fun x hx => by rw [es]; simp at hx ⊢; right; exact hx
  have incs : ∀ f ∈ s.calls, rk s f.1 < rk s v → f ∈ cs := fun f hf hlt => by
    rw [ec] at hf
    rcases List.mem_append.1 hf with hf | hf
    · exact hf
    · simp at hf; rw [hf] at hlt; exact absurd hlt (Nat.lt_irrefl _)
  generalize hs' : ({ s with calls := cs, low := lower s cs v, st := pre, ons := clr s.ons (v :: post) } : TS) = s'
  have r1 : ∀ x, rk s' x = rk s x := fun x => by rw [← hs']; rfl
  have o1 : ∀ x, os s' x = if x ∈ v :: post then false else os s x := fun x => by rw [← hs']; exact clr_getD _ _ _
  have l1 : ∀ x, lw s' x = lw s x := fun x => by rw [← hs']; exact lower_same h ec hl x
  have st1 : s'.st = pre := by rw [← hs']
  have ca1 : s'.calls = cs := by rw [← hs']
  refine
    { hS := h.hS, lr := by rw [← hs']; exact h.lr, ll := by rw [← hs']; show (lower s cs v).length = n; rw [lower_length]; exact h.ll
      lo := by rw [← hs']; show (clr s.ons _).length = n; rw [clr_length]; exact h.lo
      fnd := by rw [← hs']; exact h.fnd, stn := fun x hx => by rw [st1] at hx; exact h.stn x (ofpre x hx), stM := ?_
      stR := ?_
      stP := fun x hx => by rw [r1]; rw [st1] at hx; exact h.stP x (ofpre x hx)
      rkF := fun x => by rw [r1, ← hs']; exact h.rkF x
      rkI := fun a b ha hab => by rw [r1] at ha hab; rw [r1] at hab; exact h.rkI a b ha hab
      caS := fun f hf => by
        rw [ca1] at hf; rw [st1]
        exact ⟨inpre _ (h.caS f (csm f hf)).1 (csl f hf), (h.caS f (csm f hf)).2⟩
      caR := by rw [ca1]; exact hR.1.imp fun {a b} hab => by rw [r1, r1]; exact hab
      cl := ?_
      pe := fun u hu hng x hx => by
        rw [st1] at hu; rw [ca1] at hng; rw [r1]
        refine h.pe u (ofpre u hu) (fun f hf e => ?_) x hx
        exact hng f (incs f hf (by rw [e]; exact cut1 u hu)) e
      pg := fun f hf x hx => by rw [ca1] at hf; rw [r1]; exact h.pg f (csm f hf) x hx
      gE := fun f hf u hu hle => by rw [ca1] at hf; rw [st1] at hu; rw [r1, r1] at hle; exact h.gE f (csm f hf) u (ofpre u hu) hle
      gF := fun u hu => by
        rw [st1] at hu; rw [ca1]
        obtain ⟨f, hf, a1, a2⟩ := h.gF u (ofpre u hu)
        exact ⟨f, incs f hf (Nat.lt_of_le_of_lt a1 (cut1 u hu)), by rw [r1, r1]; exact a1, a2⟩
      gG := fun f hf => by
        rw [ca1] at hf; rw [l1, r1, st1]
        obtain ⟨a1, x, a2, a3, a4⟩ := h.gG f (csm f hf)
        exact ⟨a1, x, inpre x a2 (by have := csl f hf; omega), by rw [r1]; exact a3, a4⟩
      gH := fun f hf x hx hxs => by rw [ca1] at hf; rw [st1] at hxs; rw [r1, l1]; exact h.gH f (csm f hf) x hx (ofpre x hxs)
      gI := ?_ }
  · intro x
    rw [o1, st1]
    by_cases hx : x ∈ v :: post
    · rw [if_pos hx]
      constructor
      · intro e; cases e
      · intro hp; have := cut1 x hp; have := cut2 x hx; omega
    · rw [if_neg hx, h.stM x, es]
      constructor
      · intro hm
        rcases List.mem_append.1 hm with hm | hm
        · exact hm
        · exact absurd hm hx
      · intro hm; simp [hm]
  · rw [st1]
    have := h.stR
    rw [es, List.pairwise_append] at this
    exact this.1.imp fun {a b} hab => by rw [r1, r1]; exact hab
  · intro a ha hb x hx
    rw [r1] at ha
    rw [o1] at hb
    have hin : (a ∈ s.st ∧ rk s v ≤ rk s a) ∨ (0 < rk s a ∧ os s a = false) := by
      by_cases ha2 : a ∈ v :: post
      · exact .inl ⟨ofpost a ha2, cut2 a ha2⟩
      · rw [if_neg ha2] at hb; exact .inr ⟨ha, hb⟩
    rw [r1, o1]
    rcases seg_closed h ec hl a x hin hx with ⟨b1, b2⟩ | ⟨b1, b2⟩
    · have : x ∈ v :: post := by
        rw [es] at b1
        rcases List.mem_append.1 b1 with b1 | b1
        · have := cut1 x b1; omega
        · exact b1
      rw [if_pos this]
      exact ⟨h.stP x (ofpost x this), rfl⟩
    · refine ⟨b1, ?_⟩
      split
      · rfl
      · exact b2
  · intro f hf u hu hng hlu hbet x hx hxs
    rw [ca1] at hf hng hbet
    rw [st1] at hu hxs
    rw [r1, l1]
    rw [r1, r1] at hlu
    refine h.gI f (csm f hf) u (ofpre u hu) (fun f' hf' e => ?_) hlu (fun f' hf' hl' => ?_) x hx (ofpre x hxs)
    · exact hng f' (incs f' hf' (by rw [e]; exact cut1 u hu)) e
    · rw [ec] at hf'
      rcases List.mem_append.1 hf' with hf' | hf'
      · have := hbet f' hf' (by rw [r1, r1]; exact hl')
        rw [r1, r1] at this
        exact this
      · simp at hf'; rw [hf']; exact cut1 u hu

/-! ### the answer so far -/
def done (s : TS) (u : Nat) : Prop := 0 < rk s u ∧ os s u = false
def LI (S : List (List Nat)) (D : Nat → Prop) (m : Int) : Prop :=
  (m = -1 ∧ ∀ u, D u → ¬ Cyc S u) ∨ ∃ k : Nat, m = (k : Int) ∧ D k ∧ Cyc S k ∧ ∀ u, D u → Cyc S u → k ≤ u
theorem LI.cong {D D' : Nat → Prop} {m : Int} (h : LI S D m) (e : ∀ u, D' u ↔ D u) : LI S D' m := by
  have : D' = D := funext fun u => propext (e u)
  rw [this]; exact h

/-- The least of a list (0 for the empty one). -/
def least : List Nat → Nat
  | [] => 0
  | a :: l => l.foldl min a
theorem foldl_min_le : ∀ (l : List Nat) (a : Nat), l.foldl min a ≤ a ∧ ∀ x ∈ l, l.foldl min a ≤ x
  | [], a => ⟨Nat.le_refl _, by simp⟩
  | b :: l, a => by
    obtain ⟨h1, h2⟩ := foldl_min_le l (min a b)
    refine ⟨Nat.le_trans h1 (Nat.min_le_left _ _), fun x hx => ?_⟩
    rcases List.mem_cons.1 hx with e | hx
    · rw [e]; exact Nat.le_trans h1 (Nat.min_le_right _ _)
    · exact h2 x hx
theorem foldl_min_mem : ∀ (l : List Nat) (a : Nat), l.foldl min a = a ∨ l.foldl min a ∈ l
  | [], a => .inl rfl
  | b :: l, a => by
    rcases foldl_min_mem l (min a b) with h | h
    · show l.foldl min (min a b) = a ∨ l.foldl min (min a b) ∈ b :: l
      rw [h]
      by_cases c : a ≤ b
      · left; exact Nat.min_eq_left c
      · right; rw [Nat.min_eq_right (by omega)]; simp
    · right; exact List.mem_cons_of_mem _ h
theorem least_mem (c : List Nat) (h : c ≠ []) : least c ∈ c := by
  match c, h with
  | a :: l, _ =>
    rcases foldl_min_mem l a with e | e
    · show l.foldl min a ∈ a :: l; rw [e]; simp
    · exact List.mem_cons_of_mem _ e
theorem least_le (c : List Nat) (x : Nat) (h : x ∈ c) : least c ≤ x := by
  match c, h with
  | a :: l, h =>
    obtain ⟨h1, h2⟩ := foldl_min_le l a
    rcases List.mem_cons.1 h with e | h
    · rw [e]; exact h1
    · exact h2 x h

/-- The answer behind a component. -/
def upd (m : Int) (c : List Nat) : Int := if c.length > 1 then (if m < 0 ∨ (least c : Int) < m then (least c : Int) else m) else m

theorem upd_ok {n : Nat} {s : TS} {cs : List (Nat × Nat)} {v : Nat} {pre post : List Nat} {m : Int} (h : TI S n s) (ec : s.calls = cs ++ [(v, (scs S v).length)]) (hl : lw s v = rk s v) (es : s.st = pre ++ v :: post) (hm : LI S (done s) m) :
    LI S (done { s with calls := cs, low := lower s cs v, st := pre, ons := clr s.ons (v :: post) }) (upd m (v :: post)) := by
  obtain ⟨cut1, cut2⟩ := st_cut h v pre post es
  have ofpost : ∀ x ∈ v :: post, x ∈ s.st := fun x hx => by rw [es]; simp at hx ⊢; right; exact hx
  have hD : ∀ u, done { s with calls := cs, low := lower s cs v, st := pre, ons := clr s.ons (v :: post) } u ↔ (done s u ∨ u ∈ v :: post) := by
    intro u
    have o1 : os { s with calls := cs, low := lower s cs v, st := pre, ons := clr s.ons (v :: post) } u = if u ∈ v :: post then false else os s u := clr_getD _ _ _
    show (0 < rk s u ∧ _) ↔ ((0 < rk s u ∧ _) ∨ _)
    rw [o1]
    by_cases hu : u ∈ v :: post
    · rw [if_pos hu]
      exact ⟨fun _ => .inr hu, fun _ => ⟨h.stP u (ofpost u hu), rfl⟩⟩
    · rw [if_neg hu]
      exact ⟨fun a => .inl a, fun a => a.elim id (fun b => absurd b hu)⟩
  refine LI.cong ?_ hD
  have hvk : (v, (scs S v).length) ∈ s.calls := by rw [ec]; simp
  unfold upd
  by_cases hc : (v :: post).length > 1
  · rw [if_pos hc]
    have hcyc : ∀ x ∈ v :: post, Cyc S x := by
      intro x hx
      obtain ⟨a1, a2⟩ := seg_scc h ec x (ofpost x hx) (cut2 x hx)
      by_cases e : x = v
      · match post, hc, ofpost, cut2 with
        | y :: post', _, ofpost, cut2 =>
          obtain ⟨b1, b2⟩ := seg_scc h ec y (ofpost y (by simp)) (cut2 y (by simp))
          refine ⟨y, fun e2 => ?_, by rw [e]; exact b1, by rw [e]; exact b2⟩
          have hR := h.stR
          rw [es, List.pairwise_append, List.pairwise_cons] at hR
          have := hR.2.1.1 y (by simp)
          rw [e2, e] at this
          exact Nat.lt_irrefl _ this
      · exact ⟨v, fun e2 => e e2.symm, a2, a1⟩
    have lm := least_mem (v :: post) (by simp)
    have ll := least_le (v :: post)
    rcases hm with ⟨e, hm⟩ | ⟨k, e, h1, h2, h3⟩
    · rw [if_pos (.inl (by omega))]
      refine .inr ⟨least (v :: post), rfl, .inr lm, hcyc _ lm, fun u hu hcu => ?_⟩
      rcases hu with hu | hu
      · exact absurd hcu (hm u hu)
      · exact ll u hu
    · by_cases c : (least (v :: post) : Int) < m
      · rw [if_pos (.inr c)]
        refine .inr ⟨least (v :: post), rfl, .inr lm, hcyc _ lm, fun u hu hcu => ?_⟩
        rcases hu with hu | hu
        · have := h3 u hu hcu; omega
        · exact ll u hu
      · rw [if_neg (by omega)]
        refine .inr ⟨k, e, .inl h1, h2, fun u hu hcu => ?_⟩
        rcases hu with hu | hu
        · exact h3 u hu hcu
        · have := ll u hu; omega
  · rw [if_neg hc]
    have hp : post = [] := by
      match post, hc with
      | [], _ => rfl
      | y :: post', hc => exact absurd (by simp) hc
    subst hp
    have hnc : ¬ Cyc S v := by
      rintro ⟨w, hw, b1, b2⟩
      obtain ⟨c1, c2⟩ := seg_all h ec hl w b1 b2
      rw [es] at c1
      rcases List.mem_append.1 c1 with c1 | c1
      · have := cut1 w c1; omega
      · simp at c1; exact hw c1
    rcases hm with ⟨e, hm⟩ | ⟨k, e, h1, h2, h3⟩
    · refine .inl ⟨e, fun u hu => ?_⟩
      rcases hu with hu | hu
      · exact hm u hu
      · simp at hu; rw [hu]; exact hnc
    · refine .inr ⟨k, e, .inl h1, h2, fun u hu hcu => ?_⟩
      rcases hu with hu | hu
      · exact h3 u hu hcu
      · simp at hu; rw [hu] at hcu; exact absurd hcu hnc
end Go.Proofs.Qxb6601646a.Tj
