import Derived.Test.Qxb6601646aNwCx
namespace Go.Proofs.Qxb6601646a.Nw
open Go.RowKit Go.Proofs.Qxb6601646a.Tw Go.Proofs.Qxb6601646a.Np

/-- The law's turned rows while they are built. -/
structure AS (w wr : World) (rv : List Value) (adj : List (List Int)) : Prop where
  bel : Below w.heap.size w wr
  arr : Arr wr w.heap.size 23 rv
  rows : Rows wr w.heap.size w.heap.size rv adj
theorem rep_get (n i : Nat) : (List.replicate n nilv).getD i nilv = nilv := by
  rw [List.getD_eq_getElem?_getD, List.getElem?_replicate]
  split <;> rfl
theorem repl_get (n i : Nat) : (List.replicate n ([] : List Int)).getD i [] = [] := by
  rw [List.getD_eq_getElem?_getD, List.getElem?_replicate]
  split <;> rfl
theorem as_start {w w1 : World} {n : Nat} (hown : w1.ownsRow w.heap.size 23 1 (.slice (some ⟨w.heap.size, 0, none⟩) n n) n (madeCells (Value.slice none 0 0).cells (n * 1)).toList) (hg : w.grownBy w1 none) : AS w w1 (List.replicate n nilv) (List.replicate n []) := by
  rw [made_nil] at hown
  refine ⟨(Below.refl _ _).grown hg (Nat.le_refl _) (fun k hk => by cases hk), arr_of_own hown, ⟨by simp, fun i => ?_, fun i j g _ hg => ?_, fun i g hg => ?_⟩⟩
  · rw [rep_get, repl_get]; exact ⟨rfl, .inl ⟨rfl, rfl⟩⟩
  · rw [rep_get] at hg; cases hg
  · rw [rep_get] at hg; cases hg
theorem AS.cell {w wr : World} {rv : List Value} {adj : List (List Int)} (h : AS w wr rv adj) {j : Nat} (hj : j < adj.length) : ∃ ra rc, rv.getD j nilv = .slice ra (adj.getD j []).length rc ∧ wr.cell? ⟨w.heap.size, j, none⟩ = some (.slice ra (adj.getD j []).length rc) ∧ wr.frozen? ⟨w.heap.size, j, none⟩ = false := by
  obtain ⟨ra, rc, hr⟩ := own_val (h.rows.own j)
  refine ⟨ra, rc, hr, ?_, h.arr.free j⟩
  rw [h.arr.cell j, getD_of (by rw [h.rows.len]; exact hj) nilv, hr]
theorem AS.push {w wr w2 : World} {rv : List Value} {adj : List (List Int)} (h : AS w wr rv adj) {o : Obj} {j g cap rl : Nat} {ra : Option Addr} {rc : Nat} {x : Int} (hj : j < adj.length) (er : rv.getD j nilv = .slice ra rl rc) (hrl : (adj.getD j []).length = rl)
    (hown : w2.ownsRow w.heap.size 3 1 (.slice (some ⟨g, 0, none⟩) (rl + 1) cap) (rl + 1) (zv (adj.getD j []) ++ [.int .i64 x])) (hg : (wr.alloc o).grownBy w2 (Value.slice ra rl rc).ownBlock) (hat : (Value.slice ra rl rc).ownBlock = some g ∨ g = wr.heap.size + 1) :
    AS w (w2.setCell ⟨w.heap.size, j, none⟩ (.slice (some ⟨g, 0, none⟩) (rl + 1) cap)) (rv.set j (.slice (some ⟨g, 0, none⟩) (rl + 1) cap)) (addE adj j x) ∧ w2.cell? ⟨w.heap.size, j, none⟩ = some (.slice ra rl rc) ∧ w2.frozen? ⟨w.heap.size, j, none⟩ = false := by
  subst hrl
  rw [← er] at hg hat
  have hrows := h.rows.push hj h.arr.lt hown hg hat
  have a2 : Arr w2 w.heap.size 23 rv := (h.arr.alloc _).grown hg (fun e => own_type (h.rows.own j) h.arr (by decide) e.symm)
  have hsz := h.arr.lt
  refine ⟨⟨Below.setCell (Below.grown (h.bel.alloc (by omega) _) hg (by simp; omega) (fun k hk => own_base (h.rows.own j) k hk)) (Nat.le_refl _) _, a2.set j _, hrows.set (fun i e => hrows.nb i _ e rfl) _⟩, ?_, a2.free j⟩
  rw [a2.cell j, getD_of (by rw [h.rows.len]; exact hj) nilv, er]
theorem row_ownz {w : World} {B : Nat} {a : Option Addr} {n c : Nat} {l : List Int} (h : w.ownsRow B 3 1 (.slice a n c) n (zv l)) (hl : l.length = n) : Row w a n l := by
  refine ⟨hl, ?_⟩
  by_cases h0 : n = 0
  · exact .inl h0
  · obtain ⟨g, cap, e, _, _⟩ := h.form (by omega)
    cases e
    have hlt := own_lt h g rfl
    refine .inr ⟨g, 0, rfl, hlt, fun j hj => ?_⟩
    rw [Nat.zero_add, own_cell h j (by omega), zv_at l j (by omega)]
theorem AS.mat {w wr : World} {rv : List Value} {adj : List (List Int)} {nj M : Nat} (h : AS w wr rv adj) (hl : adj.length = nj) (hM : ∀ k, (adj.getD k []).length ≤ M) (hM2 : M ≤ 9223372036854775807) : Mat wr (some ⟨w.heap.size, 0, none⟩) nj adj := by
  refine ⟨hl, .inr ⟨w.heap.size, 0, rfl, h.arr.lt, fun j hj => ?_⟩⟩
  obtain ⟨ra, rc, er, hc, _⟩ := h.cell (j := j) (by omega)
  rw [Nat.zero_add]
  have ho := h.rows.own j
  rw [er] at ho
  exact ⟨ra, _, rc, hc, Nat.le_trans (hM j) hM2, row_ownz ho rfl⟩
/-- What stands behind the first row of i, forwards. -/
theorem gr_fw {S0 S : List (List Int)} {J : List (Nat × Nat)} (hg : Gr true S0 J S) {i kk : Nat} {x : Int} (h0 : (S0.getD i []).length ≤ kk) (hx : (S.getD i [])[kk]? = some x) : ∃ j, j < J.length ∧ x = ((S0.length + j : Nat) : Int) := by
  obtain ⟨E, e1, _, e3⟩ := hg.row i
  rw [e1, List.getElem?_append_right h0] at hx
  obtain ⟨k, l, r, h4, h5⟩ := (e3 _).1 (List.mem_of_getElem? hx)
  rw [if_pos rfl] at h5
  exact ⟨k, (List.getElem?_eq_some_iff.1 h4).1, h5.1⟩
theorem gr_len {fw : Bool} {S0 S : List (List Int)} {J : List (Nat × Nat)} (hg : Gr fw S0 J S) (i : Nat) : (S0.getD i []).length ≤ (S.getD i []).length := by
  obtain ⟨E, e1, _, _⟩ := hg.row i
  rw [e1, List.length_append]; omega
theorem getD_over (S0 : List (List Int)) {i : Nat} (h : S0.length ≤ i) : S0.getD i [] = [] := by
  rw [List.getD_eq_getElem?_getD, List.getElem?_eq_none h]; rfl
end Go.Proofs.Qxb6601646a.Nw
