import Derived.Test.Qxb6601646aTjPop
namespace Go.Proofs.Qxb6601646a.Tj
variable {S : List (List Nat)}

/-! ### the measure -/
def wsum (S : List (List Nat)) : Nat → List Nat → Nat
  | _, [] => 0
  | i, r :: rs => (if r = 0 then (scs S i).length + 1 else 0) + wsum S (i + 1) rs
def csum (S : List (List Nat)) : List (Nat × Nat) → Nat
  | [] => 0
  | f :: fs => ((scs S f.1).length - f.2 + 1) + csum S fs
def meas (S : List (List Nat)) (s : TS) : Nat := wsum S 0 s.rank + csum S s.calls
theorem wsum_set : ∀ (l : List Nat) (i w v : Nat), w < l.length → l.getD w 0 = 0 → v ≠ 0 → wsum S i (l.set w v) + ((scs S (i + w)).length + 1) = wsum S i l
  | [], i, w, v, h, _, _ => by simp at h
  | a :: l, i, 0, v, _, h0, hv => by
    have ha : a = 0 := by simpa using h0
    subst ha
    simp only [List.set_cons_zero, wsum, if_neg hv, if_pos, Nat.add_zero]
    omega
  | a :: l, i, w + 1, v, h, h0, hv => by
    have ih := wsum_set l (i + 1) w v (by simpa using h) (by simpa using h0) hv
    simp only [List.set_cons_succ, wsum]
    rw [show i + (w + 1) = i + 1 + w from by omega]
    omega
theorem csum_app : ∀ (l l' : List (Nat × Nat)), csum S (l ++ l') = csum S l + csum S l'
  | [], l' => by simp [csum]
  | f :: l, l' => by simp only [List.cons_append, csum]; rw [csum_app l l']; omega

/-! ### all that the loop keeps -/
structure TJ (S : List (List Nat)) (n : Nat) (r : Nat) (s : TS) (m : Int) : Prop where
  ti : TI S n s
  li : LI S (done s) m
  bs : s.st.length ≤ s.found
  bc : s.calls.length ≤ s.found
  rt : ∀ u, u < r → 0 < rk s u
theorem TJ.fn {n r : Nat} {s : TS} {m : Int} (h : TJ S n r s m) : s.found ≤ n := by have := h.ti.fnd; omega

def start (n : Nat) : TS := { rank := List.replicate n 0, low := List.replicate n 0, ons := List.replicate n false, st := [], calls := [], found := 0 }
theorem getD_rep {α : Type} (n i : Nat) (a : α) : (List.replicate n a).getD i a = a := by
  rw [List.getD_eq_getElem?_getD, List.getElem?_replicate]
  split <;> rfl
theorem tj_start {n : Nat} (hS : ∀ u w, Edge S u w → w < n) : TJ S n 0 (start n) (-1) where
  ti := by
    have hr : ∀ u, rk (start n) u = 0 := fun u => getD_rep n u 0
    have ho : ∀ u, os (start n) u = false := fun u => getD_rep n u false
    have hst : ∀ u, ¬ u ∈ (start n).st := fun u => by simp [start]
    have hca : ∀ f, ¬ f ∈ (start n).calls := fun u => by simp [start]
    exact
      { hS := hS, lr := by simp [start], ll := by simp [start], lo := by simp [start], fnd := by simp [start]
        stn := fun v hv => absurd hv (hst v), stM := fun v => by rw [ho]; simp [start], stR := List.Pairwise.nil, stP := fun v hv => absurd hv (hst v)
        rkF := fun v => by rw [hr]; exact Nat.zero_le _, rkI := fun u v hu => by rw [hr] at hu; exact absurd hu (by omega)
        caS := fun f hf => absurd hf (hca f), caR := List.Pairwise.nil
        cl := fun u hu => by rw [hr] at hu; exact absurd hu (by omega)
        pe := fun v hv => absurd hv (hst v), pg := fun f hf => absurd hf (hca f), gE := fun f hf => absurd hf (hca f), gF := fun v hv => absurd hv (hst v)
        gG := fun f hf => absurd hf (hca f), gH := fun f hf => absurd hf (hca f), gI := fun f hf => absurd hf (hca f) }
  li := .inl ⟨rfl, fun u hu => by
    have hr : rk (start n) u = 0 := getD_rep n u 0
    have := hu.1
    omega⟩
  bs := by simp [start]
  bc := by simp [start]
  rt := fun u hu => by omega

theorem done_disc {n : Nat} {s s0 : TS} {w : Nat} (h : TI S n s0) (hw : w < n) (h0 : rk s0 w = 0) (er : s.rank = s0.rank) (eo : s.ons = s0.ons) (u : Nat) : done (disc s w) u ↔ done s0 u := by
  have hwr : w < s.rank.length := by rw [er, h.lr]; exact hw
  have hwo : w < s.ons.length := by rw [eo, h.lo]; exact hw
  unfold done
  by_cases e : u = w
  · subst e
    have os1 : os (disc s u) u = true := by unfold os disc; rw [getD_set_same _ _ _ _ hwo]
    rw [os1, h0]
    simp
  · have rw2 : rk (disc s w) u = rk s0 u := by unfold rk disc; rw [getD_set_ne _ _ _ _ _ (fun e' => e e'.symm), er]
    have os2 : os (disc s w) u = os s0 u := by unfold os disc; rw [getD_set_ne _ _ _ _ _ (fun e' => e e'.symm), eo]
    rw [rw2, os2]
theorem mono_disc {n : Nat} {s s0 : TS} {w : Nat} (h : TI S n s0) (hw : w < n) (er : s.rank = s0.rank) (u : Nat) (hu : 0 < rk s0 u) : 0 < rk (disc s w) u := by
  have hwr : w < s.rank.length := by rw [er, h.lr]; exact hw
  by_cases e : u = w
  · subst e; unfold rk disc; rw [getD_set_same _ _ _ _ hwr]; omega
  · unfold rk disc; rw [getD_set_ne _ _ _ _ _ (fun e' => e e'.symm), er]; exact hu

/-- A new root. -/
theorem tj_root {n r : Nat} {s : TS} {m : Int} (h : TJ S n r s m) (hc : s.calls = []) (hr : r < n) (h0 : rk s r = 0) : TJ S n (r + 1) (disc s r) m where
  ti := disc_ok h.ti hr h0 rfl rfl rfl rfl rfl (.inl ⟨hc, hc⟩)
  li := h.li.cong (done_disc h.ti hr h0 rfl rfl)
  bs := by show (s.st ++ [r]).length ≤ s.found + 1; have := h.bs; simp; exact this
  bc := by show (s.calls ++ [(r, 0)]).length ≤ s.found + 1; have := h.bc; simp; exact this
  rt := fun u hu => by
    by_cases e : u = r
    · subst e
      have hwr : u < s.rank.length := by rw [h.ti.lr]; exact hr
      unfold rk disc; rw [getD_set_same _ _ _ _ hwr]; omega
    · exact mono_disc h.ti hr rfl u (h.rt u (by omega))
theorem tj_skip {n r : Nat} {s : TS} {m : Int} (h : TJ S n r s m) (h0 : rk s r ≠ 0) : TJ S n (r + 1) s m :=
  ⟨h.ti, h.li, h.bs, h.bc, fun u hu => by
    by_cases e : u = r
    · rw [e]; omega
    · exact h.rt u (by omega)⟩

/-- The newest edge of the top call leads to a white node. -/
theorem tj_disc {n r : Nat} {s : TS} {m : Int} {cs : List (Nat × Nat)} {v k w : Nat} (h : TJ S n r s m) (ec : s.calls = cs ++ [(v, k)]) (ew : (scs S v)[k]? = some w) (h0 : rk s w = 0) :
    TJ S n r (disc { s with calls := cs ++ [(v, k + 1)] } w) m ∧ meas S (disc { s with calls := cs ++ [(v, k + 1)] } w) + 1 = meas S s := by
  have hE : Edge S v w := List.mem_of_getElem? ew
  have hw := h.ti.hS v w hE
  obtain ⟨hkl, _⟩ := List.getElem?_eq_some_iff.1 ew
  refine ⟨⟨disc_ok h.ti hw h0 rfl rfl rfl rfl rfl (.inr ⟨cs, v, k, ec, rfl, ew⟩), h.li.cong (done_disc h.ti hw h0 rfl rfl), ?_, ?_, fun u hu => mono_disc h.ti hw rfl u (h.rt u hu)⟩, ?_⟩
  · show (s.st ++ [w]).length ≤ s.found + 1; have := h.bs; simp; exact this
  · show ((cs ++ [(v, k + 1)]) ++ [(w, 0)]).length ≤ s.found + 1
    have := h.bc
    rw [ec] at this
    simp at this ⊢
    omega
  · have e1 := wsum_set (S := S) s.rank 0 w (s.found + 1) (by rw [h.ti.lr]; exact hw) h0 (by omega)
    show wsum S 0 (s.rank.set w (s.found + 1)) + csum S ((cs ++ [(v, k + 1)]) ++ [(w, 0)]) + 1 = wsum S 0 s.rank + csum S s.calls
    rw [ec, csum_app, csum_app, csum_app]
    simp only [csum] at *
    rw [Nat.zero_add] at e1
    omega

/-- It leads to a node that is found. -/
theorem tj_edge {n r : Nat} {s : TS} {m : Int} {cs : List (Nat × Nat)} {v k w : Nat} (h : TJ S n r s m) (ec : s.calls = cs ++ [(v, k)]) (ew : (scs S v)[k]? = some w) (h0 : rk s w ≠ 0) :
    TJ S n r { s with calls := cs ++ [(v, k + 1)], low := if os s w then s.low.set v (min (lw s v) (rk s w)) else s.low } m ∧ meas S { s with calls := cs ++ [(v, k + 1)], low := if os s w then s.low.set v (min (lw s v) (rk s w)) else s.low } + 1 = meas S s := by
  obtain ⟨hkl, _⟩ := List.getElem?_eq_some_iff.1 ew
  refine ⟨⟨edge_ok h.ti ec ew (by omega), h.li.cong (fun _ => Iff.rfl), h.bs, ?_, h.rt⟩, ?_⟩
  · show (cs ++ [(v, k + 1)]).length ≤ s.found
    have := h.bc
    rw [ec] at this
    simp at this ⊢
    omega
  · show wsum S 0 s.rank + csum S (cs ++ [(v, k + 1)]) + 1 = wsum S 0 s.rank + csum S s.calls
    rw [ec, csum_app, csum_app]
    simp only [csum] at *
    omega

/-- A call ends; its node stays. -/
theorem tj_black {n r : Nat} {s : TS} {m : Int} {cs : List (Nat × Nat)} {v k : Nat} (h : TJ S n r s m) (ec : s.calls = cs ++ [(v, k)]) (hk : ¬ k < (scs S v).length) (hl : lw s v ≠ rk s v) :
    TJ S n r { s with calls := cs, low := lower s cs v } m ∧ meas S { s with calls := cs, low := lower s cs v } + 1 = meas S s := by
  have ek : k = (scs S v).length := by
    have := (h.ti.caS (v, k) (by rw [ec]; simp)).2
    have : k ≤ (scs S v).length := this
    omega
  subst ek
  refine ⟨⟨end_black h.ti ec hl, h.li.cong (fun _ => Iff.rfl), h.bs, ?_, h.rt⟩, ?_⟩
  · show cs.length ≤ s.found
    have := h.bc
    rw [ec] at this
    simp at this ⊢
    omega
  · show wsum S 0 s.rank + csum S cs + 1 = wsum S 0 s.rank + csum S s.calls
    rw [ec, csum_app]
    simp only [csum] at *
    omega
/-- A call ends; its component leaves. -/
theorem tj_pop {n r : Nat} {s : TS} {m : Int} {cs : List (Nat × Nat)} {v k : Nat} {pre post : List Nat} (h : TJ S n r s m) (ec : s.calls = cs ++ [(v, k)]) (hk : ¬ k < (scs S v).length) (hl : lw s v = rk s v) (es : s.st = pre ++ v :: post) :
    TJ S n r { s with calls := cs, low := lower s cs v, st := pre, ons := clr s.ons (v :: post) } (upd m (v :: post)) ∧ meas S { s with calls := cs, low := lower s cs v, st := pre, ons := clr s.ons (v :: post) } + 1 = meas S s := by
  have ek : k = (scs S v).length := by
    have := (h.ti.caS (v, k) (by rw [ec]; simp)).2
    have : k ≤ (scs S v).length := this
    omega
  subst ek
  refine ⟨⟨end_pop h.ti ec hl es, upd_ok h.ti ec hl es h.li, ?_, ?_, h.rt⟩, ?_⟩
  · show pre.length ≤ s.found
    have := h.bs
    rw [es] at this
    simp at this ⊢
    omega
  · show cs.length ≤ s.found
    have := h.bc
    rw [ec] at this
    simp at this ⊢
    omega
  · show wsum S 0 s.rank + csum S cs + 1 = wsum S 0 s.rank + csum S s.calls
    rw [ec, csum_app]
    simp only [csum] at *
    omega

/-- The least node on a cycle, or -1. -/
def Least (S : List (List Nat)) (m : Int) : Prop := (m = -1 ∧ ∀ u, ¬ Cyc S u) ∨ ∃ k : Nat, m = (k : Int) ∧ Cyc S k ∧ ∀ u, Cyc S u → k ≤ u
theorem cyc_lt {u : Nat} (h : Cyc S u) : u < S.length := by
  obtain ⟨x, _, he, _⟩ := (cyc_iff u).1 h
  by_cases c : u < S.length
  · exact c
  · unfold Edge scs at he
    rw [List.getD_eq_getElem?_getD, List.getElem?_eq_none (by omega)] at he
    simp at he
theorem tj_end {s : TS} {m : Int} (h : TJ S S.length S.length s m) (hc : s.calls = []) : Least S m := by
  have hst : s.st = [] := by
    cases e : s.st with
    | nil => rfl
    | cons a l =>
      obtain ⟨f, hf, _⟩ := h.ti.gF a (by rw [e]; simp)
      rw [hc] at hf
      simp at hf
  have hd : ∀ u, u < S.length → done s u := fun u hu => ⟨h.rt u hu, by
    cases e : os s u with
    | false => rfl
    | true => have := (h.ti.stM u).1 e; rw [hst] at this; simp at this⟩
  rcases h.li with ⟨e, a⟩ | ⟨k, e, _, b, c⟩
  · exact .inl ⟨e, fun u hu => a u (hd u (cyc_lt hu)) hu⟩
  · exact .inr ⟨k, e, b, fun u hu => c u (hd u (cyc_lt hu)) hu⟩
theorem Least.unique {a b : Int} (h1 : Least S a) (h2 : Least S b) : a = b := by
  rcases h1 with ⟨e1, n1⟩ | ⟨k1, e1, c1, m1⟩ <;> rcases h2 with ⟨e2, n2⟩ | ⟨k2, e2, c2, m2⟩
  · rw [e1, e2]
  · exact absurd c2 (n1 _)
  · exact absurd c1 (n2 _)
  · have := m1 k2 c2; have := m2 k1 c1; omega

/-! ### the law's own search -/
def sn (seen : List Bool) (x : Nat) : Bool := seen.getD x false
/-- The edges of 'x' that are looked at: 'u' is the node in hand, 'k' of its edges are. -/
def need (S : List (List Nat)) (u k x : Nat) : List Nat := if x = u then (scs S x).take k else scs S x
theorem need_all (u x : Nat) : need S u (scs S u).length x = scs S x := by
  unfold need
  split
  · rename_i e; rw [e, List.take_length]
  · rfl
structure DI (S : List (List Nat)) (n v j u k : Nat) (seen : List Bool) (st : List Nat) : Prop where
  hS : ∀ u w, Edge S u w → w < n
  ls : seen.length = n
  sS : ∀ x ∈ st, sn seen x = true
  nd : st.Nodup
  src : ∀ x, sn seen x = true → ∃ w, w ≠ v ∧ Edge S v w ∧ Reach S w x
  fin : ∀ x, sn seen x = true → x ∉ st → x ≠ v ∧ ∀ w ∈ need S u k x, sn seen w = true
  fst : ∀ w ∈ (scs S v).take j, w ≠ v → sn seen w = true
  cnt : st.length + seen.count false ≤ n
theorem di_start {n : Nat} (v u k : Nat) (hS : ∀ u w, Edge S u w → w < n) : DI S n v 0 u k (List.replicate n false) [] := by
  have ho : ∀ x, ¬ sn (List.replicate n false) x = true := fun x => by unfold sn; rw [getD_rep]; decide
  exact ⟨hS, by simp, by simp, List.nodup_nil, fun x hx => absurd hx (ho x), fun x hx => absurd hx (ho x), by simp, by simp⟩
theorem countF_set : ∀ (l : List Bool) (i : Nat), i < l.length → l.getD i false = false → (l.set i true).count false + 1 = l.count false
  | [], i, h, _ => by simp at h
  | a :: l, 0, _, h0 => by
    have ha : a = false := by simpa using h0
    subst ha
    simp
  | a :: l, i + 1, h, h0 => by
    have ih := countF_set l i (by simpa using h) (by simpa using h0)
    simp only [List.set_cons_succ, List.count_cons]
    omega
theorem di_push {n v j u k : Nat} {seen : List Bool} {st : List Nat} {w : Nat} (h : DI S n v j u k seen st) (hw : w < n) (h0 : sn seen w = false) (hs : ∃ w', w' ≠ v ∧ Edge S v w' ∧ Reach S w' w) : DI S n v j u k (seen.set w true) (st ++ [w]) := by
  have hwl : w < seen.length := by rw [h.ls]; exact hw
  have mono : ∀ x, sn seen x = true → sn (seen.set w true) x = true := fun x hx => by
    by_cases e : x = w
    · rw [e, h0] at hx; cases hx
    · unfold sn; rw [getD_set_ne _ _ _ _ _ (fun e' => e e'.symm)]; exact hx
  have same : sn (seen.set w true) w = true := by unfold sn; exact getD_set_same _ _ _ _ hwl
  have back : ∀ x, sn (seen.set w true) x = true → x ≠ w → sn seen x = true := fun x hx e => by
    unfold sn at hx; rw [getD_set_ne _ _ _ _ _ (fun e' => e e'.symm)] at hx; exact hx
  refine ⟨h.hS, by rw [List.length_set]; exact h.ls, ?_, ?_, ?_, ?_, fun x hx e => mono x (h.fst x hx e), ?_⟩
  · intro x hx
    rcases List.mem_append.1 hx with hx | hx
    · exact mono x (h.sS x hx)
    · simp at hx; rw [hx]; exact same
  · rw [List.nodup_append]
    refine ⟨h.nd, by simp, fun a ha b hb e => ?_⟩
    simp at hb
    have := h.sS a ha
    rw [e, hb, h0] at this
    cases this
  · intro x hx
    by_cases e : x = w
    · rw [e]; exact hs
    · exact h.src x (back x hx e)
  · intro x hx hn
    rw [List.mem_append, not_or] at hn
    have e : x ≠ w := fun e => hn.2 (by simp [e])
    obtain ⟨a, b⟩ := h.fin x (back x hx e) hn.1
    exact ⟨a, fun y hy => mono y (b y hy)⟩
  · have := countF_set seen w hwl h0
    have := h.cnt
    simp
    omega
theorem di_j {n v j u k : Nat} {seen : List Bool} {st : List Nat} {w : Nat} (h : DI S n v j u k seen st) (ew : (scs S v)[j]? = some w) (hw : w ≠ v → sn seen w = true) : DI S n v (j + 1) u k seen st := by
  obtain ⟨hkl, ekw⟩ := List.getElem?_eq_some_iff.1 ew
  refine { h with fst := fun x hx e => ?_ }
  rw [List.take_succ_eq_append_getElem hkl, List.mem_append] at hx
  rcases hx with hx | hx
  · exact h.fst x hx e
  · simp at hx; rw [hx, ekw] at e ⊢; exact hw e
theorem di_k {n v j u k : Nat} {seen : List Bool} {st : List Nat} {w : Nat} (h : DI S n v j u k seen st) (ew : (scs S u)[k]? = some w) (hw : sn seen w = true) : DI S n v j u (k + 1) seen st := by
  obtain ⟨hkl, ekw⟩ := List.getElem?_eq_some_iff.1 ew
  refine { h with fin := fun x hx hn => ?_ }
  obtain ⟨a, b⟩ := h.fin x hx hn
  refine ⟨a, fun y hy => ?_⟩
  unfold need at hy b
  by_cases e : x = u
  · subst e
    rw [if_pos rfl] at hy b
    rw [List.take_succ_eq_append_getElem hkl, List.mem_append] at hy
    rcases hy with hy | hy
    · exact b y hy
    · simp at hy; rw [hy, ekw]; exact hw
  · rw [if_neg e] at hy b; exact b y hy
theorem di_pop {n v j a u : Nat} {seen : List Bool} {st : List Nat} (h : DI S n v j a (scs S a).length seen (st ++ [u])) (hu : u ≠ v) : DI S n v j u 0 seen st := by
  have hnd := h.nd
  rw [List.nodup_append] at hnd
  refine ⟨h.hS, h.ls, fun x hx => h.sS x (by simp [hx]), hnd.1, h.src, fun x hx hn => ?_, h.fst, ?_⟩
  · unfold need
    by_cases e : x = u
    · rw [if_pos e]; exact ⟨by rw [e]; exact hu, by simp⟩
    · rw [if_neg e]
      have := h.fin x hx (by simp [hn, e])
      rw [need_all] at this
      exact this
  · have := h.cnt; simp at this; omega
theorem di_src {n v j u k : Nat} {seen : List Bool} {st : List Nat} {w : Nat} (h : DI S n v j u k seen st) (hu : sn seen u = true) (he : Edge S u w) : ∃ w', w' ≠ v ∧ Edge S v w' ∧ Reach S w' w := by
  obtain ⟨w', a, b, c⟩ := h.src u hu
  exact ⟨w', a, b, c.trans (Reach.edge he)⟩
theorem di_true {n v j a : Nat} {seen : List Bool} {st : List Nat} (h : DI S n v j a (scs S a).length seen (st ++ [v])) : Cyc S v :=
  (cyc_iff v).2 (h.src v (h.sS v (by simp)))
theorem di_false {n v a : Nat} {seen : List Bool} (h : DI S n v (scs S v).length a (scs S a).length seen []) : ¬ Cyc S v := by
  intro hc
  obtain ⟨x, hx, he, hr⟩ := (cyc_iff v).1 hc
  have h1 : sn seen x = true := h.fst x (by rw [List.take_length]; exact he) hx
  have h2 := hr.closed (fun y => sn seen y = true) (fun p q hp hpq => by
    have := (h.fin p hp (by simp)).2 q
    rw [need_all] at this
    exact this hpq) h1
  exact (h.fin v h2 (by simp)).1 rfl
end Go.Proofs.Qxb6601646a.Tj
