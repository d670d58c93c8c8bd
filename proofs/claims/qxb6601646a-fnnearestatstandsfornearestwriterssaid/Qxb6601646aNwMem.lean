import Derived.Test.Qxb6601646aNwUnion
import Derived.Test.Qxb6601646aNwCopy
namespace Go.Proofs.Qxb6601646a.Nw
open Go.RowKit Go.Proofs.Qxb6601646a.Tw Go.Proofs.Qxb6601646a.Np

/-! ### rows of the call's own, each in a block of its own -/
def nilv : Value := .slice none 0 0
structure Rows (w : World) (B nb : Nat) (rv : List Value) (S : List (List Int)) : Prop where
  len : rv.length = S.length
  own : ∀ i, w.ownsRow B 3 1 (rv.getD i nilv) (S.getD i []).length (zv (S.getD i []))
  dis : ∀ i j g, i ≠ j → (rv.getD i nilv).ownBlock = some g → (rv.getD j nilv).ownBlock ≠ some g
  nb : ∀ i g, (rv.getD i nilv).ownBlock = some g → g ≠ nb
theorem own_lt {w : World} {B s : Nat} {t : TypeId} {v : Value} {n : Nat} {xs : List Value} (h : w.ownsRow B t s v n xs) : ∀ x, v.ownBlock = some x → x < w.heap.size := by
  intro x e
  rcases h.2 with ⟨h, _⟩ | ⟨g1, cap, cur, rfl, _, h3, _⟩
  · rw [h] at e; cases e
  · have : some g1 = some x := e
    injection this with this
    subst this
    exact (Array.getElem?_eq_some_iff.1 h3).1
theorem own_type {w : World} {B s g : Nat} {t t' : TypeId} {v : Value} {n : Nat} {xs cs : List Value} (h : w.ownsRow B t s v n xs) (ha : Arr w g t' cs) (hne : t ≠ t') : v.ownBlock ≠ some g := by
  intro e
  rcases h.2 with ⟨h, _⟩ | ⟨g1, cap, cur, rfl, _, h3, _⟩
  · rw [h] at e; cases e
  · have : some g1 = some g := e
    injection this with this
    subst this
    have ha' : w.heap[g1]? = some (.cells cs.toArray t' (0, 0)) := ha
    rw [h3] at ha'
    injection ha' with ha'
    injection ha' with _ h5
    exact hne h5
theorem Rows.grown {w w' : World} {B nb : Nat} {rv : List Value} {S : List (List Int)} {row : Option Nat} (h : Rows w B nb rv S) (hg : w.grownBy w' row) (hn : ∀ i g, (rv.getD i nilv).ownBlock = some g → row ≠ some g) : Rows w' B nb rv S :=
  ⟨h.len, fun i => own_grown (h.own i) hg (hn i), h.dis, h.nb⟩
theorem Rows.alloc {w : World} {B nb : Nat} {rv : List Value} {S : List (List Int)} (h : Rows w B nb rv S) (o : Obj) : Rows (w.alloc o) B nb rv S :=
  ⟨h.len, fun i => (h.own i).alloc _, h.dis, h.nb⟩
theorem Rows.set {w : World} {B nb : Nat} {rv : List Value} {S : List (List Int)} (h : Rows w B nb rv S) {a : Addr} (hn : ∀ i, (rv.getD i nilv).ownBlock ≠ some a.block) (v : Value) : Rows (w.setCell a v) B nb rv S :=
  ⟨h.len, fun i => ownsRow_setCell_other (h.own i) (hn i) v, h.dis, h.nb⟩
theorem getD_set (rv : List Value) (i : Nat) (v : Value) (hi : i < rv.length) (j : Nat) : (rv.set i v).getD j nilv = if j = i then v else rv.getD j nilv := by
  rw [List.getD_eq_getElem?_getD, List.getElem?_set]
  by_cases h : i = j
  · subst h; rw [if_pos rfl, if_pos hi, if_pos rfl]; rfl
  · rw [if_neg h, if_neg (fun e => h e.symm), ← List.getD_eq_getElem?_getD]
theorem own_conv {w : World} {B s : Nat} {t : TypeId} {v : Value} {n m : Nat} {xs ys : List Value} (h : w.ownsRow B t s v n xs) (e1 : n = m) (e2 : xs = ys) : w.ownsRow B t s v m ys := by subst e1 e2; exact h
theorem zv_append (l l' : List Int) : zv (l ++ l') = zv l ++ zv l' := by unfold zv; rw [List.map_append]
/-- Row i grows by one. -/
theorem Rows.push {w w' : World} {B nb i : Nat} {rv : List Value} {S : List (List Int)} {o : Obj} {g cap : Nat} {x : Int} (h : Rows w B nb rv S) (hi : i < S.length) (hnb : nb < w.heap.size)
    (hown : w'.ownsRow B 3 1 (.slice (some ⟨g, 0, none⟩) ((S.getD i []).length + 1) cap) ((S.getD i []).length + 1) (zv (S.getD i []) ++ [.int .i64 x])) (hg : (w.alloc o).grownBy w' (rv.getD i nilv).ownBlock)
    (hat : (rv.getD i nilv).ownBlock = some g ∨ g = w.heap.size + 1) : Rows w' B nb (rv.set i (.slice (some ⟨g, 0, none⟩) ((S.getD i []).length + 1) cap)) (addE S i x) := by
  have hl := h.len
  have hgnew : ∀ j b, j ≠ i → (rv.getD j nilv).ownBlock = some b → b ≠ g := by
    intro j b hj hb
    rcases hat with hat | hat
    · intro e; subst e; exact h.dis i j b (fun e => hj e.symm) hat hb
    · have := own_lt (h.own j) b hb; omega
  refine ⟨by rw [List.length_set, addE_length]; exact hl, fun j => ?_, fun j k b hjk => ?_, fun j b => ?_⟩
  · rw [getD_set _ _ _ (by omega), addE_get _ _ _ hi]
    by_cases e : j = i
    · rw [if_pos e, if_pos e]
      exact own_conv hown (by simp) (by rw [zv_append]; rfl)
    · rw [if_neg e, if_neg e]
      exact own_grown ((h.own j).alloc _) hg (fun b hb e' => h.dis j i b e hb e')
  · rw [getD_set _ _ _ (by omega), getD_set _ _ _ (by omega)]
    by_cases e : j = i
    · rw [if_pos e]
      intro hb
      have hb' : some g = some b := hb
      injection hb' with hb'
      rw [if_neg (fun e2 => hjk (e.trans e2.symm))]
      intro hk
      exact hgnew k b (fun e2 => hjk (e.trans e2.symm)) hk hb'.symm
    · rw [if_neg e]
      intro hb
      by_cases e2 : k = i
      · rw [if_pos e2]
        intro hk
        have hk' : some g = some b := hk
        injection hk' with hk'
        exact hgnew j b e hb hk'.symm
      · rw [if_neg e2]
        exact h.dis j k b hjk hb
  · rw [getD_set _ _ _ (by omega)]
    by_cases e : j = i
    · rw [if_pos e]
      intro hb
      have hb' : some g = some b := hb
      injection hb' with hb'
      subst hb'
      rcases hat with hat | hat
      · exact h.nb i g hat
      · omega
    · rw [if_neg e]; exact h.nb j b
/-- A nil row more. -/
theorem Rows.more {w : World} {B nb : Nat} {rv : List Value} {S : List (List Int)} (h : Rows w B nb rv S) : Rows w B nb (rv ++ [nilv]) (S ++ [[]]) := by
  have e : ∀ i, (rv ++ [nilv]).getD i nilv = rv.getD i nilv := fun i => by
    rw [List.getD_eq_getElem?_getD, List.getD_eq_getElem?_getD]
    by_cases hc : i < rv.length
    · rw [List.getElem?_append_left hc]
    · rw [List.getElem?_append_right (by omega), List.getElem?_eq_none (l := rv) (by omega)]
      by_cases h0 : i - rv.length = 0
      · rw [h0]; rfl
      · obtain ⟨m, hm⟩ : ∃ m, i - rv.length = m + 1 := ⟨i - rv.length - 1, by omega⟩
        rw [hm]; rfl
  refine ⟨by simp [h.len], fun i => ?_, fun i j g => ?_, fun i g => ?_⟩
  · rw [e, app_get]; exact h.own i
  · rw [e, e]; exact h.dis i j g
  · rw [e]; exact h.nb i g

/-- The memory that 'at' works on. -/
structure GM (B G N nb : Nat) (wB w : World) (fw : Bool) (size : Nat) (gv tv wv ov nv : Value) (S : List (List Int)) (nd : List Int) (sv : Value) (rv : List Value) : Prop where
  bel : Below B wB w
  hG : Arr w G 58 [sv, gv, tv]
  hN : Arr w N 63 [.pointer (some ⟨G, 0, none⟩), .bool fw, .int .i64 (size : Int), wv, nv, ov]
  hnd : (Arr w nb 3 (zv nd) ∧ nv = .slice (some ⟨nb, 0, none⟩) nd.length nd.length) ∨ (nd = [] ∧ nv = nilv)
  hsv : w.ownsRow B 23 1 sv S.length rv
  rows : Rows w B nb rv S
  gB : B ≤ G
  nB : B ≤ N
  bB : B ≤ nb
  bS : nb < w.heap.size
theorem gm_pair {w : World} {g g' : Nat} {t t' : TypeId} {cs cs' : List Value} (h : Arr w g t cs) (h' : Arr w g' t' cs') (hne : t ≠ t') : g ≠ g' := by
  intro e
  subst e
  have h1 : w.heap[g]? = some (.cells cs.toArray t (0, 0)) := h
  have h2 : w.heap[g]? = some (.cells cs'.toArray t' (0, 0)) := h'
  rw [h1] at h2
  injection h2 with h2
  injection h2 with _ h5
  exact hne h5
variable {B G N nb size : Nat} {wB w : World} {fw : Bool} {gv tv wv ov nv sv : Value} {S : List (List Int)} {nd : List Int} {rv : List Value}
theorem GM.drewN (h : GM B G N nb wB w fw size gv tv wv ov nv S nd sv rv) (q : Nat) : GM B G N nb wB (w.drewN q) fw size gv tv wv ov nv S nd sv rv := by
  have hh : (w.drewN q).heap = w.heap := by simp
  exact ⟨below_drewN h.bel q, by unfold Arr; rw [hh]; exact h.hG, by unfold Arr; rw [hh]; exact h.hN, by unfold Arr; rw [hh]; exact h.hnd, own_drewN h.hsv q, ⟨h.rows.len, fun i => own_drewN (h.rows.own i) q, h.rows.dis, h.rows.nb⟩, h.gB, h.nB, h.bB, by rw [hh]; exact h.bS⟩
/-- The tree's entry p is set. -/
theorem GM.node (h : GM B G N nb wB w fw size gv tv wv ov nv S nd sv rv) (p : Nat) (hp : p < nd.length) (v : Int) : GM B G N nb wB (w.setCell ⟨nb, p, none⟩ (.int .i64 v)) fw size gv tv wv ov nv S (nd.set p v) sv rv := by
  rcases h.hnd with ⟨h1, h2⟩ | ⟨h1, _⟩
  · refine ⟨h.bel.setCell (by show B ≤ nb; exact h.bB) _, h.hG.other (fun e => gm_pair h.hG h1 (by decide) e) _, h.hN.other (fun e => gm_pair h.hN h1 (by decide) e) _, .inl ⟨?_, by rw [List.length_set]; exact h2⟩, ownsRow_setCell_other h.hsv (own_type h.hsv h1 (by decide)) _, h.rows.set (fun i e => h.rows.nb i nb e rfl) _, h.gB, h.nB, h.bB, by simp; exact h.bS⟩
    have := h1.set p (.int .i64 v)
    unfold zv at this ⊢
    rw [List.map_set]; exact this
  · subst h1; simp at hp
theorem GM.node_cell (h : GM B G N nb wB w fw size gv tv wv ov nv S nd sv rv) (p : Nat) (hp : p < nd.length) : nv = .slice (some ⟨nb, 0, none⟩) nd.length nd.length ∧ w.cell? ⟨nb, p, none⟩ = some (.int .i64 (nd.getD p 0)) ∧ w.frozen? ⟨nb, p, none⟩ = false := by
  rcases h.hnd with ⟨h1, h2⟩ | ⟨h1, _⟩
  · exact ⟨h2, by rw [h1.cell p, zv_at nd p hp], h1.free p⟩
  · subst h1; simp at hp
/-- The graph's outer row has grown by a nil row. -/
theorem GM.more (h : GM B G N nb wB w fw size gv tv wv ov nv S nd sv rv) {o : Obj} {w' : World} {g cap : Nat} (hown : w'.ownsRow B 23 1 (.slice (some ⟨g, 0, none⟩) (S.length + 1) cap) (S.length + 1) (rv ++ [nilv])) (hg : (w.alloc o).grownBy w' sv.ownBlock) (hat : sv.ownBlock = some g ∨ g = w.heap.size + 1) :
    GM B G N nb wB (w'.setCell ⟨G, 0, none⟩ (.slice (some ⟨g, 0, none⟩) (S.length + 1) cap)) fw size gv tv wv ov nv (S ++ [[]]) nd (.slice (some ⟨g, 0, none⟩) (S.length + 1) cap) (rv ++ [nilv]) ∧ Arr w' G 58 [sv, gv, tv] := by
  have aG : Arr w' G 58 [sv, gv, tv] := (h.hG.alloc _).grown hg (fun e => own_type h.hsv h.hG (by decide) e.symm)
  have aN : Arr w' N 63 _ := (h.hN.alloc _).grown hg (fun e => own_type h.hsv h.hN (by decide) e.symm)
  have hrows : Rows w' B nb rv S := (h.rows.alloc _).grown hg (fun i b hb e => by
    exact own_apart (h.rows.own i) h.hsv (by decide) b hb e)
  have hnd : (Arr w' nb 3 (zv nd) ∧ nv = .slice (some ⟨nb, 0, none⟩) nd.length nd.length) ∨ (nd = [] ∧ nv = nilv) := by
    rcases h.hnd with ⟨h1, h2⟩ | h1
    · exact .inl ⟨(h1.alloc _).grown hg (fun e => own_type h.hsv h1 (by decide) e.symm), h2⟩
    · exact .inr h1
  have hGg : G ≠ g := by
    rcases hat with hat | hat
    · intro e; subst e; exact own_type h.hsv h.hG (by decide) hat
    · have := h.hG.lt; omega
  have hsz : w.heap.size ≤ w'.heap.size := by have := hg.size; simp at this; omega
  have hBw : B ≤ w.heap.size := Nat.le_trans h.gB (Nat.le_of_lt h.hG.lt)
  refine ⟨⟨Below.setCell (Below.grown (h.bel.alloc hBw _) hg (by simp; omega) (fun k hk => own_base h.hsv k hk)) (by show B ≤ G; exact h.gB) _, aG.set 0 _, aN.other (fun e => gm_pair h.hN h.hG (by decide) e) _, ?_, ?_, ?_, h.gB, h.nB, h.bB, by simp; have := h.bS; omega⟩, aG⟩
  · rcases hnd with ⟨h1, h2⟩ | h1
    · exact .inl ⟨h1.other (fun e => gm_pair h1 aG (by decide) e) _, h2⟩
    · exact .inr h1
  · rw [List.length_append]
    exact ownsRow_setCell_other hown (fun e => hGg (by have e' : some g = some G := e; injection e' with e'; exact e'.symm)) _
  · exact hrows.more.set (fun i e => own_type (hrows.more.own i) aG (by decide) e) _
/-- Row i has grown. -/
theorem GM.push {ob oc : Nat} (h : GM B G N nb wB w fw size gv tv wv ov nv S nd (.slice (some ⟨ob, 0, none⟩) S.length oc) rv) {o : Obj} {w' : World} {i g cap : Nat} {x : Int} (hi : i < S.length)
    (hown : w'.ownsRow B 3 1 (.slice (some ⟨g, 0, none⟩) ((S.getD i []).length + 1) cap) ((S.getD i []).length + 1) (zv (S.getD i []) ++ [.int .i64 x])) (hg : (w.alloc o).grownBy w' (rv.getD i nilv).ownBlock) (hat : (rv.getD i nilv).ownBlock = some g ∨ g = w.heap.size + 1) :
    GM B G N nb wB (w'.setCell ⟨ob, i, none⟩ (.slice (some ⟨g, 0, none⟩) ((S.getD i []).length + 1) cap)) fw size gv tv wv ov nv (addE S i x) nd (.slice (some ⟨ob, 0, none⟩) S.length oc) (rv.set i (.slice (some ⟨g, 0, none⟩) ((S.getD i []).length + 1) cap)) := by
  have hri := h.rows.own i
  have aG : Arr w' G 58 _ := (h.hG.alloc _).grown hg (fun e => own_type hri h.hG (by decide) e.symm)
  have aN : Arr w' N 63 _ := (h.hN.alloc _).grown hg (fun e => own_type hri h.hN (by decide) e.symm)
  have hobr : ∀ j, (rv.getD j nilv).ownBlock ≠ some ob := fun j e => own_apart (h.rows.own j) h.hsv (by decide) ob e rfl
  have hrows := h.rows.push hi h.bS hown hg hat
  have hsv' : w'.ownsRow B 23 1 (.slice (some ⟨ob, 0, none⟩) S.length oc) S.length rv := own_grown (h.hsv.alloc _) hg (fun b hb e => by
    have hb' : some ob = some b := hb
    injection hb' with hb'
    subst hb'
    exact hobr i e)
  have hsz : w.heap.size ≤ w'.heap.size := by have := hg.size; simp at this; omega
  have hBw : B ≤ w.heap.size := Nat.le_trans h.gB (Nat.le_of_lt h.hG.lt)
  have hobB : B ≤ ob := own_base h.hsv ob rfl
  refine ⟨Below.setCell (Below.grown (h.bel.alloc hBw _) hg (by simp; omega) (fun k hk => own_base hri k hk)) (by show B ≤ ob; exact hobB) _, aG.other (fun e => own_type hsv' aG (by decide) (by show some ob = some G; rw [e])) _, aN.other (fun e => own_type hsv' aN (by decide) (by show some ob = some N; rw [e])) _, ?_, ?_, ?_, h.gB, h.nB, h.bB, by simp; have := h.bS; omega⟩
  · rcases h.hnd with ⟨h1, h2⟩ | h1
    · have a1 : Arr w' nb 3 (zv nd) := (h1.alloc _).grown hg (fun e => h.rows.nb i nb e.symm rfl)
      exact .inl ⟨a1.other (fun e => own_type hsv' a1 (by decide) (by show some ob = some nb; rw [e])) _, h2⟩
    · exact .inr h1
  · rw [addE_length]
    exact own_set _ hsv'
  · refine hrows.set (fun j e => ?_) _
    exact own_apart (hrows.own j) hsv' (by decide) ob e rfl
end Go.Proofs.Qxb6601646a.Nw
