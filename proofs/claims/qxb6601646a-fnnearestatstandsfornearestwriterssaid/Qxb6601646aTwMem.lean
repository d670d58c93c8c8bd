import Derived.Test.Qxb6601646aTwCyc
import Derived.Deep.RegionHeld3
namespace Go.Proofs.Qxb6601646a.Tw
open Go.RowKit Go.Proofs.Qxb6601646a.Tj

/-- Open calls as cells. -/
def fv : List (Nat × Nat) → List Value
  | [] => []
  | f :: l => .int .i64 (f.1 : Int) :: .int .i64 (f.2 : Int) :: fv l
theorem fv_length : ∀ l, (fv l).length = l.length * 2
  | [] => rfl
  | f :: l => by simp only [fv, List.length_cons, fv_length l]; omega
theorem fv_append : ∀ l l', fv (l ++ l') = fv l ++ fv l'
  | [], l' => rfl
  | f :: l, l' => by simp only [List.cons_append, fv, fv_append l l']

theorem own_grown {w w' : World} {B s : Nat} {t : TypeId} {v : Value} {n : Nat} {xs : List Value} {row : Option Nat} (h : w.ownsRow B t s v n xs) (hg : w.grownBy w' row) (hne : ∀ g, v.ownBlock = some g → row ≠ some g) : w'.ownsRow B t s v n xs := by
  refine ⟨h.1, ?_⟩
  rcases h.2 with h | ⟨g, cap, cur, rfl, h2, h3, h4⟩
  · exact .inl h
  · refine .inr ⟨g, cap, cur, rfl, h2, ?_, h4⟩
    rw [hg.block g (lt_of_block h3) (fun e => hne g rfl e.symm)]; exact h3
theorem own_apart {w : World} {B B' s s' : Nat} {t t' : TypeId} {v v' : Value} {n n' : Nat} {xs xs' : List Value} (h : w.ownsRow B t s v n xs) (h' : w.ownsRow B' t' s' v' n' xs') (hne : t ≠ t') : ∀ g, v.ownBlock = some g → v'.ownBlock ≠ some g := by
  intro g e e'
  rcases h.2 with ⟨h, _⟩ | ⟨g1, cap, cur, rfl, _, h3, _⟩
  · rw [h] at e; cases e
  rcases h'.2 with ⟨h', _⟩ | ⟨g2, cap', cur', rfl, _, h3', _⟩
  · rw [h'] at e'; cases e'
  have e1 : g1 = g := by have : some g1 = some g := e; injection this
  have e2 : g2 = g := by have : some g2 = some g := e'; injection this
  subst e1 e2
  rw [h3] at h3'
  injection h3' with h4
  injection h4 with _ h5
  exact hne h5
theorem own_base {w : World} {B s : Nat} {t : TypeId} {v : Value} {n : Nat} {xs : List Value} (h : w.ownsRow B t s v n xs) : ∀ x, v.ownBlock = some x → B ≤ x := by
  intro x e
  rcases h.2 with ⟨h, _⟩ | ⟨g1, cap, cur, rfl, hb, _⟩
  · rw [h] at e; cases e
  · have : some g1 = some x := e
    injection this with this
    omega
theorem own_val {w : World} {B s : Nat} {t : TypeId} {v : Value} {n : Nat} {xs : List Value} (h : w.ownsRow B t s v n xs) : ∃ a c, v = .slice a n c := by
  rcases h.2 with ⟨h0, h1⟩ | ⟨g', cap, cur, hv, hb, _⟩
  · subst h1; exact ⟨none, 0, h0⟩
  · exact ⟨_, cap, hv⟩
theorem own_take {w : World} {B s : Nat} {t : TypeId} {g cap n m : Nat} {xs : List Value} (h : w.ownsRow B t s (.slice (some ⟨g, 0, none⟩) n cap) n xs) (hm : m ≤ n) : w.ownsRow B t s (.slice (some ⟨g, 0, none⟩) m cap) m (xs.take (m * s)) := by
  have hle := Nat.mul_le_mul_right s hm
  refine ⟨by rw [List.length_take, h.1]; omega, ?_⟩
  rcases h.2 with ⟨h, _⟩ | ⟨g1, cap1, cur, hv, h2, h3, h4, h5, h6, h7⟩
  · cases h
  · cases hv
    refine .inr ⟨g, cap, cur, rfl, h2, h3, by omega, h5, h6, ?_⟩
    rw [← h7, List.take_take, Nat.min_eq_left hle]
/-- A cell of an owned row is set. -/
theorem own_set {w : World} {B s : Nat} {t : TypeId} {g cap n j : Nat} {xs : List Value} (u : Value) (h : w.ownsRow B t s (.slice (some ⟨g, 0, none⟩) n cap) n xs) : (w.setCell ⟨g, j, none⟩ u).ownsRow B t s (.slice (some ⟨g, 0, none⟩) n cap) n (xs.set j u) := by
  refine ⟨by rw [List.length_set]; exact h.1, ?_⟩
  rcases h.2 with ⟨h, _⟩ | ⟨g1, cap1, cur, hv, h2, h3, h4, h5, h6, h7⟩
  · cases h
  · cases hv
    have ha : Arr w g t cur.toList := by unfold Arr; rw [h3]
    refine .inr ⟨g, cap, (cur.toList.set j u).toArray, rfl, h2, ha.set j u, h4, h5, by simp [h6], ?_⟩
    rw [← h7, List.take_set]

structure TM (B n : Nat) (gv : List Value) (w0 w : World) (s : TS) (sv cv : Value) : Prop where
  hB : w0.heap.size = B
  bel : Below B w0 w
  hst : w.ownsRow (B + 10) 3 1 sv s.st.length (iv s.st)
  hca : w.ownsRow (B + 10) 90 2 cv s.calls.length (fv s.calls)
  hg : Arr w (B + 0) 58 gv
  hr : Arr w (B + 1) 3 (iv s.rank)
  hrp : Arr w (B + 2) 23 [.slice (some ⟨B + 1, 0, none⟩) n n]
  hl : Arr w (B + 3) 3 (iv s.low)
  hlp : Arr w (B + 4) 23 [.slice (some ⟨B + 3, 0, none⟩) n n]
  ho : Arr w (B + 5) 4 (bv s.ons)
  hop : Arr w (B + 6) 29 [.slice (some ⟨B + 5, 0, none⟩) n n]
  hsp : Arr w (B + 7) 23 [sv]
  hcp : Arr w (B + 8) 88 [cv]
  hf : Arr w (B + 9) 3 [.int .i64 (s.found : Int)]

theorem TM.size {B n : Nat} {gv : List Value} {w0 w : World} {s : TS} {sv cv : Value} (h : TM B n gv w0 w s sv cv) : B + 10 ≤ w.heap.size := h.hf.lt
theorem TM.drewN {B n : Nat} {gv : List Value} {w0 w : World} {s : TS} {sv cv : Value} (h : TM B n gv w0 w s sv cv) (q : Nat) : TM B n gv w0 (w.drewN q) s sv cv := by
  have hh : (w.drewN q).heap = w.heap := by simp
  refine ⟨h.hB, ⟨h.bel.os, h.bel.tape, h.bel.output, by rw [hh]; exact h.bel.size, fun k hk => by rw [hh]; exact h.bel.block k hk⟩, ⟨h.hst.1, by rw [hh]; exact h.hst.2⟩, ⟨h.hca.1, by rw [hh]; exact h.hca.2⟩, by unfold Arr; rw [hh]; exact h.hg, by unfold Arr; rw [hh]; exact h.hr, by unfold Arr; rw [hh]; exact h.hrp, by unfold Arr; rw [hh]; exact h.hl, by unfold Arr; rw [hh]; exact h.hlp, by unfold Arr; rw [hh]; exact h.ho, by unfold Arr; rw [hh]; exact h.hop, by unfold Arr; rw [hh]; exact h.hsp, by unfold Arr; rw [hh]; exact h.hcp, by unfold Arr; rw [hh]; exact h.hf⟩
theorem TM.drew {B n : Nat} {gv : List Value} {w0 w : World} {s : TS} {sv cv : Value} (h : TM B n gv w0 w s sv cv) : TM B n gv w0 w.drew s sv cv := h.drewN 1
theorem TM.found {B n : Nat} {gv : List Value} {w0 w : World} {s : TS} {sv cv : Value} (h : TM B n gv w0 w s sv cv) (r : Nat) : TM B n gv w0 (w.setCell ⟨B + 9, 0, none⟩ (.int .i64 ((r : Nat) : Int))) { s with found := r } sv cv :=
  ⟨h.hB, h.bel.setCell (by show B ≤ B + 9; omega) _, ownsRow_setCell_below h.hst (by show B + 9 < B + 10; omega) _, ownsRow_setCell_below h.hca (by show B + 9 < B + 10; omega) _, h.hg.other (by show B + 0 ≠ B + 9; omega) _, h.hr.other (by show B + 1 ≠ B + 9; omega) _, h.hrp.other (by show B + 2 ≠ B + 9; omega) _, h.hl.other (by show B + 3 ≠ B + 9; omega) _, h.hlp.other (by show B + 4 ≠ B + 9; omega) _, h.ho.other (by show B + 5 ≠ B + 9; omega) _, h.hop.other (by show B + 6 ≠ B + 9; omega) _, h.hsp.other (by show B + 7 ≠ B + 9; omega) _, h.hcp.other (by show B + 8 ≠ B + 9; omega) _, h.hf.set 0 _⟩
theorem TM.rank {B n : Nat} {gv : List Value} {w0 w : World} {s : TS} {sv cv : Value} (h : TM B n gv w0 w s sv cv) (j r : Nat) : TM B n gv w0 (w.setCell ⟨B + 1, j, none⟩ (.int .i64 ((r : Nat) : Int))) { s with rank := s.rank.set j r } sv cv :=
  ⟨h.hB, h.bel.setCell (by show B ≤ B + 1; omega) _, ownsRow_setCell_below h.hst (by show B + 1 < B + 10; omega) _, ownsRow_setCell_below h.hca (by show B + 1 < B + 10; omega) _, h.hg.other (by show B + 0 ≠ B + 1; omega) _, (by show Arr _ _ 3 (iv (s.rank.set j r)); rw [← iv_set]; exact h.hr.set j _), h.hrp.other (by show B + 2 ≠ B + 1; omega) _, h.hl.other (by show B + 3 ≠ B + 1; omega) _, h.hlp.other (by show B + 4 ≠ B + 1; omega) _, h.ho.other (by show B + 5 ≠ B + 1; omega) _, h.hop.other (by show B + 6 ≠ B + 1; omega) _, h.hsp.other (by show B + 7 ≠ B + 1; omega) _, h.hcp.other (by show B + 8 ≠ B + 1; omega) _, h.hf.other (by show B + 9 ≠ B + 1; omega) _⟩
theorem TM.low {B n : Nat} {gv : List Value} {w0 w : World} {s : TS} {sv cv : Value} (h : TM B n gv w0 w s sv cv) (j r : Nat) : TM B n gv w0 (w.setCell ⟨B + 3, j, none⟩ (.int .i64 ((r : Nat) : Int))) { s with low := s.low.set j r } sv cv :=
  ⟨h.hB, h.bel.setCell (by show B ≤ B + 3; omega) _, ownsRow_setCell_below h.hst (by show B + 3 < B + 10; omega) _, ownsRow_setCell_below h.hca (by show B + 3 < B + 10; omega) _, h.hg.other (by show B + 0 ≠ B + 3; omega) _, h.hr.other (by show B + 1 ≠ B + 3; omega) _, h.hrp.other (by show B + 2 ≠ B + 3; omega) _, (by show Arr _ _ 3 (iv (s.low.set j r)); rw [← iv_set]; exact h.hl.set j _), h.hlp.other (by show B + 4 ≠ B + 3; omega) _, h.ho.other (by show B + 5 ≠ B + 3; omega) _, h.hop.other (by show B + 6 ≠ B + 3; omega) _, h.hsp.other (by show B + 7 ≠ B + 3; omega) _, h.hcp.other (by show B + 8 ≠ B + 3; omega) _, h.hf.other (by show B + 9 ≠ B + 3; omega) _⟩
theorem TM.ons {B n : Nat} {gv : List Value} {w0 w : World} {s : TS} {sv cv : Value} (h : TM B n gv w0 w s sv cv) (j : Nat) (b : Bool) : TM B n gv w0 (w.setCell ⟨B + 5, j, none⟩ (.bool b)) { s with ons := s.ons.set j b } sv cv :=
  ⟨h.hB, h.bel.setCell (by show B ≤ B + 5; omega) _, ownsRow_setCell_below h.hst (by show B + 5 < B + 10; omega) _, ownsRow_setCell_below h.hca (by show B + 5 < B + 10; omega) _, h.hg.other (by show B + 0 ≠ B + 5; omega) _, h.hr.other (by show B + 1 ≠ B + 5; omega) _, h.hrp.other (by show B + 2 ≠ B + 5; omega) _, h.hl.other (by show B + 3 ≠ B + 5; omega) _, h.hlp.other (by show B + 4 ≠ B + 5; omega) _, (by show Arr _ _ 4 (bv (s.ons.set j b)); rw [← bv_set]; exact h.ho.set j _), h.hop.other (by show B + 6 ≠ B + 5; omega) _, h.hsp.other (by show B + 7 ≠ B + 5; omega) _, h.hcp.other (by show B + 8 ≠ B + 5; omega) _, h.hf.other (by show B + 9 ≠ B + 5; omega) _⟩
theorem TM.stack {B n : Nat} {gv : List Value} {w0 w : World} {s : TS} {sv cv : Value} (h : TM B n gv w0 w s sv cv) {st' : List Nat} {sv' : Value} (ho : w.ownsRow (B + 10) 3 1 sv' st'.length (iv st')) : TM B n gv w0 (w.setCell ⟨B + 7, 0, none⟩ sv') { s with st := st' } sv' cv :=
  ⟨h.hB, h.bel.setCell (by show B ≤ B + 7; omega) _, ownsRow_setCell_below ho (by show B + 7 < B + 10; omega) _, ownsRow_setCell_below h.hca (by show B + 7 < B + 10; omega) _, h.hg.other (by show B + 0 ≠ B + 7; omega) _, h.hr.other (by show B + 1 ≠ B + 7; omega) _, h.hrp.other (by show B + 2 ≠ B + 7; omega) _, h.hl.other (by show B + 3 ≠ B + 7; omega) _, h.hlp.other (by show B + 4 ≠ B + 7; omega) _, h.ho.other (by show B + 5 ≠ B + 7; omega) _, h.hop.other (by show B + 6 ≠ B + 7; omega) _, h.hsp.set 0 _, h.hcp.other (by show B + 8 ≠ B + 7; omega) _, h.hf.other (by show B + 9 ≠ B + 7; omega) _⟩
theorem TM.calls {B n : Nat} {gv : List Value} {w0 w : World} {s : TS} {sv cv : Value} (h : TM B n gv w0 w s sv cv) {cs' : List (Nat × Nat)} {cv' : Value} (ho : w.ownsRow (B + 10) 90 2 cv' cs'.length (fv cs')) : TM B n gv w0 (w.setCell ⟨B + 8, 0, none⟩ cv') { s with calls := cs' } sv cv' :=
  ⟨h.hB, h.bel.setCell (by show B ≤ B + 8; omega) _, ownsRow_setCell_below h.hst (by show B + 8 < B + 10; omega) _, ownsRow_setCell_below ho (by show B + 8 < B + 10; omega) _, h.hg.other (by show B + 0 ≠ B + 8; omega) _, h.hr.other (by show B + 1 ≠ B + 8; omega) _, h.hrp.other (by show B + 2 ≠ B + 8; omega) _, h.hl.other (by show B + 3 ≠ B + 8; omega) _, h.hlp.other (by show B + 4 ≠ B + 8; omega) _, h.ho.other (by show B + 5 ≠ B + 8; omega) _, h.hop.other (by show B + 6 ≠ B + 8; omega) _, h.hsp.other (by show B + 7 ≠ B + 8; omega) _, h.hcp.set 0 _, h.hf.other (by show B + 9 ≠ B + 8; omega) _⟩
theorem TM.push {B n : Nat} {gv : List Value} {w0 w : World} {s : TS} {sv cv : Value} (h : TM B n gv w0 w s sv cv) {o : Obj} {w' : World} {st' : List Nat} {sv' : Value} (ho : w'.ownsRow (B + 10) 3 1 sv' st'.length (iv st')) (hg : (w.alloc o).grownBy w' sv.ownBlock) : TM B n gv w0 (w'.setCell ⟨B + 7, 0, none⟩ sv') { s with st := st' } sv' cv :=
  ⟨h.hB, Below.setCell (Below.grown (h.bel.alloc (by have := h.size; omega) _) hg (by have := h.size; simp; omega) (fun k hk => by have := own_base h.hst k hk; omega)) (by show B ≤ B + 7; omega) _, ownsRow_setCell_below ho (by show B + 7 < B + 10; omega) _, ownsRow_setCell_below (own_grown (h.hca.alloc _) hg (own_apart h.hca h.hst (by decide))) (by show B + 7 < B + 10; omega) _, ((h.hg.alloc _).grown hg (fun e => by have := own_base h.hst _ e.symm; omega)).other (by show B + 0 ≠ B + 7; omega) _, ((h.hr.alloc _).grown hg (fun e => by have := own_base h.hst _ e.symm; omega)).other (by show B + 1 ≠ B + 7; omega) _, ((h.hrp.alloc _).grown hg (fun e => by have := own_base h.hst _ e.symm; omega)).other (by show B + 2 ≠ B + 7; omega) _, ((h.hl.alloc _).grown hg (fun e => by have := own_base h.hst _ e.symm; omega)).other (by show B + 3 ≠ B + 7; omega) _, ((h.hlp.alloc _).grown hg (fun e => by have := own_base h.hst _ e.symm; omega)).other (by show B + 4 ≠ B + 7; omega) _, ((h.ho.alloc _).grown hg (fun e => by have := own_base h.hst _ e.symm; omega)).other (by show B + 5 ≠ B + 7; omega) _, ((h.hop.alloc _).grown hg (fun e => by have := own_base h.hst _ e.symm; omega)).other (by show B + 6 ≠ B + 7; omega) _, ((h.hsp.alloc _).grown hg (fun e => by have := own_base h.hst _ e.symm; omega)).set 0 _, ((h.hcp.alloc _).grown hg (fun e => by have := own_base h.hst _ e.symm; omega)).other (by show B + 8 ≠ B + 7; omega) _, ((h.hf.alloc _).grown hg (fun e => by have := own_base h.hst _ e.symm; omega)).other (by show B + 9 ≠ B + 7; omega) _⟩
theorem TM.enter {B n : Nat} {gv : List Value} {w0 w : World} {s : TS} {sv cv : Value} (h : TM B n gv w0 w s sv cv) {o : Obj} {w' : World} {cs' : List (Nat × Nat)} {cv' : Value} (ho : w'.ownsRow (B + 10) 90 2 cv' cs'.length (fv cs')) (hg : (w.alloc o).grownBy w' cv.ownBlock) : TM B n gv w0 (w'.setCell ⟨B + 8, 0, none⟩ cv') { s with calls := cs' } sv cv' :=
  ⟨h.hB, Below.setCell (Below.grown (h.bel.alloc (by have := h.size; omega) _) hg (by have := h.size; simp; omega) (fun k hk => by have := own_base h.hca k hk; omega)) (by show B ≤ B + 8; omega) _, ownsRow_setCell_below (own_grown (h.hst.alloc _) hg (own_apart h.hst h.hca (by decide))) (by show B + 8 < B + 10; omega) _, ownsRow_setCell_below ho (by show B + 8 < B + 10; omega) _, ((h.hg.alloc _).grown hg (fun e => by have := own_base h.hca _ e.symm; omega)).other (by show B + 0 ≠ B + 8; omega) _, ((h.hr.alloc _).grown hg (fun e => by have := own_base h.hca _ e.symm; omega)).other (by show B + 1 ≠ B + 8; omega) _, ((h.hrp.alloc _).grown hg (fun e => by have := own_base h.hca _ e.symm; omega)).other (by show B + 2 ≠ B + 8; omega) _, ((h.hl.alloc _).grown hg (fun e => by have := own_base h.hca _ e.symm; omega)).other (by show B + 3 ≠ B + 8; omega) _, ((h.hlp.alloc _).grown hg (fun e => by have := own_base h.hca _ e.symm; omega)).other (by show B + 4 ≠ B + 8; omega) _, ((h.ho.alloc _).grown hg (fun e => by have := own_base h.hca _ e.symm; omega)).other (by show B + 5 ≠ B + 8; omega) _, ((h.hop.alloc _).grown hg (fun e => by have := own_base h.hca _ e.symm; omega)).other (by show B + 6 ≠ B + 8; omega) _, ((h.hsp.alloc _).grown hg (fun e => by have := own_base h.hca _ e.symm; omega)).other (by show B + 7 ≠ B + 8; omega) _, ((h.hcp.alloc _).grown hg (fun e => by have := own_base h.hca _ e.symm; omega)).set 0 _, ((h.hf.alloc _).grown hg (fun e => by have := own_base h.hca _ e.symm; omega)).other (by show B + 9 ≠ B + 8; omega) _⟩
/-- The top call's frame. -/
theorem fv_top (cs : List (Nat × Nat)) (v k : Nat) : (fv (cs ++ [(v, k)]))[cs.length * 2]? = some (.int .i64 (v : Int)) ∧ (fv (cs ++ [(v, k)]))[cs.length * 2 + 1]? = some (.int .i64 (k : Int)) := by
  rw [fv_append, List.getElem?_append_right (by rw [fv_length]; omega), List.getElem?_append_right (by rw [fv_length]; omega), fv_length]
  simp [fv]
theorem fv_bump (cs : List (Nat × Nat)) (v k : Nat) : (fv (cs ++ [(v, k)])).set (cs.length * 2 + 1) (.int .i64 ((k + 1 : Nat) : Int)) = fv (cs ++ [(v, k + 1)]) := by
  rw [fv_append, fv_append, List.set_append_right _ _ (by rw [fv_length]; omega), fv_length]
  simp [fv]
theorem TM.bump {B n : Nat} {gv : List Value} {w0 w : World} {s : TS} {sv : Value} {g cap v k : Nat} {cs : List (Nat × Nat)} (h : TM B n gv w0 w s sv (.slice (some ⟨g, 0, none⟩) (cs.length + 1) cap)) (ec : s.calls = cs ++ [(v, k)]) :
    TM B n gv w0 (w.setCell ⟨g, cs.length * 2 + 1, none⟩ (.int .i64 ((k + 1 : Nat) : Int))) { s with calls := cs ++ [(v, k + 1)] } sv (.slice (some ⟨g, 0, none⟩) (cs.length + 1) cap) := by
  have hgb : B + 10 ≤ g := own_base h.hca g rfl
  have hl : s.calls.length = cs.length + 1 := by rw [ec]; simp
  have hca := h.hca
  rw [hl, ec] at hca
  have hca' := own_set (j := cs.length * 2 + 1) (.int .i64 ((k + 1 : Nat) : Int)) hca
  rw [fv_bump] at hca'
  have hl' : (cs ++ [(v, k + 1)]).length = cs.length + 1 := by simp
  refine ⟨h.hB, h.bel.setCell (by show B ≤ g; omega) _, ownsRow_setCell_other h.hst (fun e => own_apart h.hst h.hca (by decide) g e rfl) _, by show World.ownsRow _ _ _ _ _ (cs ++ [(v, k + 1)]).length _; rw [hl']; exact hca', h.hg.other (by show B + 0 ≠ g; omega) _, h.hr.other (by show B + 1 ≠ g; omega) _, h.hrp.other (by show B + 2 ≠ g; omega) _, h.hl.other (by show B + 3 ≠ g; omega) _, h.hlp.other (by show B + 4 ≠ g; omega) _, h.ho.other (by show B + 5 ≠ g; omega) _, h.hop.other (by show B + 6 ≠ g; omega) _, h.hsp.other (by show B + 7 ≠ g; omega) _, h.hcp.other (by show B + 8 ≠ g; omega) _, h.hf.other (by show B + 9 ≠ g; omega) _⟩

theorem info90 : (Try.prog.info? 90).map (fun i => (i.zero, i.size, i.bytes)) = some (some (.agg #[.int .i64 0, .int .i64 0]), 2, 16) := by kernel_rfl
theorem cell_two_at {w : World} {H : Nat} (hH : w.heap.size = H) (a b : Value) (t : TypeId) : ∀ j u, [a, b][j]? = some u → (w.alloc (.cells #[a, b] t)).cell? ((⟨H, 0, none⟩ : Addr).add j) = some u := by
  subst hH
  intro j u hj
  have e : (⟨w.heap.size, 0, none⟩ : Addr).add j = ⟨w.heap.size, j, none⟩ := by unfold Addr.add; split <;> simp_all
  have ha : Arr (w.alloc (.cells #[a, b] t)) w.heap.size t [a, b] := heap_alloc_new w _
  rw [e, ha.cell j]; exact hj
theorem TM.keeps {B n : Nat} {gv : List Value} {w0 w w' : World} {s : TS} {sv cv : Value} {o : Obj} {row : Option Nat} (h : TM B n gv w0 w s sv cv) (hg : (w.alloc o).grownBy w' row) (hr : ∀ x, row = some x → B + 10 ≤ x) : Arr w' (B + 7) 23 [sv] ∧ Arr w' (B + 8) 88 [cv] :=
  ⟨(h.hsp.alloc _).grown hg (fun e => by have := hr _ e.symm; omega), (h.hcp.alloc _).grown hg (fun e => by have := hr _ e.symm; omega)⟩
theorem own_len {w : World} {B s : Nat} {t : TypeId} {v : Value} {n m : Nat} {xs ys : List Value} (h : w.ownsRow B t s v n xs) (e1 : n = m) (e2 : xs = ys) : w.ownsRow B t s v m ys := by subst e1 e2; exact h

set_option maxHeartbeats 4000000 in
set_option maxRecDepth 100000 in
theorem disc_any (B n : Nat) (gv : List Value) (w0 w : World) (s : TS) (sv cv : Value) (v : Nat) (h : TM B n gv w0 w s sv cv) (hv : v < n) (hls : s.st.length ≤ 4096) (hlc : s.calls.length ≤ 4096) (hlf : s.found ≤ 4096) (hrl : s.rank.length = n) (hll : s.low.length = n) (hol : s.ons.length = n) :
    Calls Try.prog 42 #[.int .i64 (v : Int), .pointer (some ⟨B + 9, 0, none⟩), .pointer (some ⟨B + 2, 0, none⟩), .pointer (some ⟨B + 4, 0, none⟩), .pointer (some ⟨B + 6, 0, none⟩), .pointer (some ⟨B + 7, 0, none⟩), .pointer (some ⟨B + 8, 0, none⟩)] w fun e w' => e = .returned (.tuple #[]) ∧ ∃ sv' cv', TM B n gv w0 w' (disc s v) sv' cv' := by
  obtain ⟨i3, hi3, hz30, hz31, hz32⟩ := info_parts info3
  have HT : Hid (TM B n gv w0 w s sv cv) := h
  have c9 := cell_of_one h.hf
  have f9 := free_of_one h.hf
  have c2 := cell_of_one h.hrp
  have c4 := cell_of_one h.hlp
  have hv' : (v : Int) < (n : Int) := by omega
  clear h
  go_enter Try.func42, Try.ntmps42
  go_wp2
  have HT1 : Hid (TM B n gv w0 (w.setCell ⟨B + 9, 0, none⟩ (.int .i64 ((s.found : Int) + 1))) { s with found := s.found + 1 } sv cv) := HT.out.found (s.found + 1)
  generalize w.setCell ⟨B + 9, 0, none⟩ (.int .i64 ((s.found : Int) + 1)) = w1 at *
  clear c9 f9 c2 c4 HT
  have c9 : w1.cell? ⟨B + 9, 0, none⟩ = some (.int .i64 ((s.found : Int) + 1)) := cell_of_one HT1.out.hf
  have c2 := cell_of_one HT1.out.hrp
  have c4 := cell_of_one HT1.out.hlp
  have fr1 := HT1.out.hr.free v
  have c1 := HT1.out.hr.cell v
  have c3 := HT1.out.hl.cell v
  rw [iv_at s.rank v (by rw [hrl]; exact hv)] at c1
  rw [iv_at s.low v (by rw [hll]; exact hv)] at c3
  have fr3 := HT1.out.hl.free v
  have v0 : (0 : Int) ≤ (v : Int) := by omega
  go_region_held3 (fun wx => wx.cell? ⟨B + 9, 0, none⟩ = some (.int .i64 ((s.found : Int) + 1)) ∧ wx.cell? ⟨B + 2, 0, none⟩ = some (.slice (some ⟨B + 1, 0, none⟩) n n) ∧ wx.cell? ⟨B + 4, 0, none⟩ = some (.slice (some ⟨B + 3, 0, none⟩) n n)) (go_keep) (fail)
  have HT2 : Hid (TM B n gv w0 ((w1.setCell ⟨B + 1, v, none⟩ (.int .i64 ((s.found : Int) + 1))).setCell ⟨B + 3, v, none⟩ (.int .i64 ((s.found : Int) + 1))).drew { s with found := s.found + 1, rank := s.rank.set v (s.found + 1), low := s.low.set v (s.found + 1) } sv cv) := ((HT1.out.rank v (s.found + 1)).low v (s.found + 1)).drew
  generalize ((w1.setCell ⟨B + 1, v, none⟩ (.int .i64 ((s.found : Int) + 1))).setCell ⟨B + 3, v, none⟩ (.int .i64 ((s.found : Int) + 1))).drew = w2 at *
  clear c9 c2 c4 c1 c3 fr1 fr3 HT1
  have c6 := cell_of_one HT2.out.hop
  have c5 := HT2.out.ho.cell v
  rw [bv_at s.ons v (by rw [hol]; exact hv)] at c5
  have f5 := HT2.out.ho.free v
  have HT3 : Hid (TM B n gv w0 (w2.setCell ⟨B + 5, v, none⟩ (.bool true)) { s with found := s.found + 1, rank := s.rank.set v (s.found + 1), low := s.low.set v (s.found + 1), ons := s.ons.set v true } sv cv) := HT2.out.ons v true
  obtain ⟨sa, sc, hsv⟩ := own_val HT3.out.hst
  obtain ⟨ca, cc, hcv⟩ := own_val HT3.out.hca
  have hsv' : sv = .slice sa s.st.length sc := hsv
  have hcv' : cv = .slice ca s.calls.length cc := hcv
  clear hsv hcv
  subst hsv' hcv'
  have c7 := cell_of_one HT2.out.hsp
  have hsz := HT2.out.size
  obtain ⟨i9, hi9, hz90, hz91, hz92⟩ := info_parts info90
  have es : (iv s.st) ++ [.int .i64 (v : Int)] = iv (s.st ++ [v]) := by rw [iv_append]; rfl
  have ef : (fv s.calls) ++ [.int .i64 (v : Int), .int .i64 0] = fv (s.calls ++ [(v, 0)]) := by rw [fv_append]; rfl
  have els : s.st.length + 1 = (s.st ++ [v]).length := by simp
  have elf : s.calls.length + 1 = (s.calls ++ [(v, 0)]).length := by simp
  have ES : Hid (s.st.length + 1 = (s.st ++ [v]).length ∧ (iv s.st) ++ [.int .i64 (v : Int)] = iv (s.st ++ [v]) ∧ s.calls.length + 1 = (s.calls ++ [(v, 0)]).length ∧ (fv s.calls) ++ [.int .i64 (v : Int), .int .i64 0] = fv (s.calls ++ [(v, 0)])) := ⟨els, es, elf, ef⟩
  clear els es elf ef
  go_wp2_with (first
    | (at_builtin; refine wpList_append_lies _ rfl _ _ 23 rfl (B + 10) 3 i3 (.int .i64 0) 1 8 Try.underlying23 hi3 hz30 hz31 hz32 rfl (by decide) _ s.st.length _ rfl (HT3.out.hst.alloc _) ⟨w2.heap.size, 0, none⟩ 1 1 [.int .i64 (v : Int)] rfl rfl (cell_one_at (by simp) _ _) (by simp [Value.oneCell']) (by omega) (by unfold maxLen; omega) (by omega) (by simp; omega) (w2.heap.size + 1) (by simp) ?_; intro g1 cap1 w3 hown3 hgrow3 hat3 hlt3; have HT4 : Hid (TM B n gv w0 (w3.setCell ⟨B + 7, 0, none⟩ (.slice (some ⟨g1, 0, none⟩) (s.st.length + 1) cap1)) { s with found := s.found + 1, rank := s.rank.set v (s.found + 1), low := s.low.set v (s.found + 1), ons := s.ons.set v true, st := s.st ++ [v] } (.slice (some ⟨g1, 0, none⟩) (s.st.length + 1) cap1) (.slice ca s.calls.length cc)) := HT3.out.push (own_len hown3 ES.out.1 ES.out.2.1) hgrow3; have K3 := HT3.out.keeps hgrow3 (own_base HT3.out.hst); have c7 := cell_of_one K3.1; have f7 := free_of_one K3.1; have c8 := cell_of_one K3.2; have hsz3 := HT4.out.size; clear hown3 hgrow3 hat3 K3)
    | (at_builtin; refine wpList_append_lies _ rfl _ _ 88 rfl (B + 10) 90 i9 (.agg #[.int .i64 0, .int .i64 0]) 2 16 Try.underlying88 hi9 hz90 hz91 hz92 rfl (by decide) _ s.calls.length _ rfl (HT4.out.hca.alloc _) ⟨w3.heap.size, 0, none⟩ 1 1 [.int .i64 (v : Int), .int .i64 0] rfl rfl (cell_two_at (by simp) _ _ _) (by simp [Value.oneCell']) (by omega) (by unfold maxLen; omega) (by omega) (by simp at hsz3 ⊢; omega) (w3.heap.size + 1) (by simp) ?_; intro g2 cap2 w4 hown4 hgrow4 hat4 hlt4; have HT5 : Hid (TM B n gv w0 (w4.setCell ⟨B + 8, 0, none⟩ (.slice (some ⟨g2, 0, none⟩) (s.calls.length + 1) cap2)) (disc s v) (.slice (some ⟨g1, 0, none⟩) (s.st.length + 1) cap1) (.slice (some ⟨g2, 0, none⟩) (s.calls.length + 1) cap2)) := HT4.out.enter (own_len hown4 ES.out.2.2.1 ES.out.2.2.2) hgrow4; have K4 := HT4.out.keeps hgrow4 (own_base HT4.out.hca); have c8 := cell_of_one K4.2; have f8 := free_of_one K4.2; clear hown4 hgrow4 hat4 K4))
  go_end0
  exact ⟨rfl, _, _, HT5.out⟩
end Go.Proofs.Qxb6601646a.Tw
