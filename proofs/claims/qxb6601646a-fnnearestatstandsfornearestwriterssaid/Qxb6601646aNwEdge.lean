import Derived.Test.Qxb6601646aNwMem
import Derived.Deep.RegionLaw
namespace Go.Proofs.Qxb6601646a.Nw
open Go.RowKit Go.Proofs.Qxb6601646a.Tw Go.Proofs.Qxb6601646a.Np
variable {B G N nb size : Nat} {wB w : World} {fw : Bool} {gv tv wv ov nv sv : Value} {S : List (List Int)} {nd : List Int} {rv : List Value}

theorem gm_outer (h : GM B G N nb wB w fw size gv tv wv ov nv S nd sv rv) {f : Nat} (hf : f < S.length) :
    ∃ ob oc ra rc, sv = .slice (some ⟨ob, 0, none⟩) S.length oc ∧ B ≤ ob ∧ w.cell? ⟨G, 0, none⟩ = some (.slice (some ⟨ob, 0, none⟩) S.length oc) ∧ w.cell? ⟨ob, f, none⟩ = some (.slice ra (S.getD f []).length rc) ∧ rv.getD f nilv = .slice ra (S.getD f []).length rc ∧ w.frozen? ⟨ob, f, none⟩ = false := by
  obtain ⟨ob, oc, rfl, hb, _⟩ := h.hsv.form (by omega)
  obtain ⟨ra, rc, hr⟩ := own_val (h.rows.own f)
  have hc : w.cell? ⟨ob, f, none⟩ = rv[f]? := own_cell h.hsv f (by omega)
  have hl : f < rv.length := by rw [h.rows.len]; exact hf
  have e : rv[f]? = some (rv.getD f nilv) := getD_of hl nilv
  refine ⟨ob, oc, ra, rc, rfl, hb, h.hG.cell 0, by rw [hc, e, hr], hr, ?_⟩
  rcases h.hsv.2 with ⟨h0, _⟩ | ⟨_, _, cur, h0, _, h3, _⟩
  · cases h0
  · cases h0; simp [World.frozen?, h3]

theorem edge_keep {ob oc f : Nat} {ra : Option Addr} {rl rc : Nat} {o : Obj} {w2 : World} (h : GM B G N nb wB w fw size gv tv wv ov nv S nd (.slice (some ⟨ob, 0, none⟩) S.length oc) rv) (er : rv.getD f nilv = .slice ra rl rc) (hg : (w.drew.alloc o).grownBy w2 (Value.slice ra rl rc).ownBlock) (co : w.cell? ⟨ob, f, none⟩ = some (.slice ra rl rc)) (fo : w.frozen? ⟨ob, f, none⟩ = false) :
    w2.cell? ⟨G, 0, none⟩ = some (.slice (some ⟨ob, 0, none⟩) S.length oc) ∧ w2.cell? ⟨ob, f, none⟩ = some (.slice ra rl rc) ∧ w2.frozen? ⟨ob, f, none⟩ = false := by
  have hh : w.drew.heap = w.heap := rfl
  have hri := h.rows.own f
  have h1 : w2.heap[G]? = w.heap[G]? := by
    rw [hg.block G (by simp; have := h.hG.lt; omega) (fun e => own_type hri h.hG (by decide) (by rw [er]; exact e.symm)), Below.heap_alloc _ _ _ (by rw [hh]; exact h.hG.lt), hh]
  have h2 : w2.heap[ob]? = w.heap[ob]? := by
    have hlt := own_lt h.hsv ob rfl
    rw [hg.block ob (by simp; omega) (fun e => own_apart hri h.hsv (by decide) ob (by rw [er]; exact e.symm) rfl), Below.heap_alloc _ _ _ (by rw [hh]; exact hlt), hh]
  refine ⟨(World.cell?_of_block (w := w) h1).trans (h.hG.cell 0), (World.cell?_of_block (w := w) h2).trans co, ?_⟩
  unfold World.frozen? at fo ⊢
  rw [h2]; exact fo

theorem edge_end {ob oc f SL : Nat} {ra : Option Addr} {rl rc g1 cap1 : Nat} {x : Int} {o : Obj} {w2 : World} (h : GM B G N nb wB w fw size gv tv wv ov nv S nd (.slice (some ⟨ob, 0, none⟩) SL oc) rv) (hSL : S.length = SL) (hf : f < SL) (er : rv.getD f nilv = .slice ra rl rc) (hrl : (S.getD f []).length = rl)
    (hown : w2.ownsRow B 3 1 (.slice (some ⟨g1, 0, none⟩) (rl + 1) cap1) (rl + 1) (zv (S.getD f []) ++ [.int .i64 x])) (hg : (w.drew.alloc o).grownBy w2 (Value.slice ra rl rc).ownBlock) (hat : (Value.slice ra rl rc).ownBlock = some g1 ∨ g1 = w.heap.size + 1) :
    ∃ sv' rv', Hid (GM B G N nb wB (w2.setCell ⟨ob, f, none⟩ (.slice (some ⟨g1, 0, none⟩) (rl + 1) cap1)) fw size gv tv wv ov nv (addE S f x) nd sv' rv') := by
  subst hSL hrl
  rw [← er] at hg hat
  exact ⟨_, _, (h.drewN 1).push hf hown hg hat⟩

set_option maxHeartbeats 1000000 in
set_option maxRecDepth 100000 in
theorem edge_any (h : GM B G N nb wB w fw size gv tv wv ov nv S nd sv rv) (f t : Nat) (hf : f < S.length) (hft : f ≠ t) (hrow : (S.getD f []).length ≤ 1000000) :
    Calls Try.prog 44 #[.pointer (some ⟨G, 0, none⟩), .int .i64 (f : Int), .int .i64 (t : Int)] w fun e w' => e = .returned (.tuple #[]) ∧ ∃ sv' rv', Hid (GM B G N nb wB w' fw size gv tv wv ov nv (addE S f (t : Int)) nd sv' rv') := by
  obtain ⟨i3, hi3, hz30, hz31, hz32⟩ := info_parts info3
  obtain ⟨ob, oc, ra, rc, rfl, hb, cG, co, er, fo⟩ := gm_outer h hf
  have HM : Hid (GM B G N nb wB w fw size gv tv wv ov nv S nd (.slice (some ⟨ob, 0, none⟩) S.length oc) rv) := h
  have HO : Hid (w.ownsRow B 3 1 (.slice ra (S.getD f []).length rc) (S.getD f []).length (zv (S.getD f []))) := by have := h.rows.own f; rw [er] at this; exact this
  have ER : Hid (rv.getD f nilv = .slice ra (S.getD f []).length rc) := er
  have HBs : Hid (B ≤ w.heap.size) := Nat.le_trans h.gB (Nat.le_of_lt h.hG.lt)
  have hGw : G < w.heap.size := h.hG.lt
  have hobw : ob < w.heap.size := own_lt h.hsv ob rfl
  clear h er
  have HE : Hid (∀ (o : Obj) (w2 : World), (w.drew.alloc o).grownBy w2 (Value.slice ra (S.getD f []).length rc).ownBlock → w2.cell? ⟨G, 0, none⟩ = some (.slice (some ⟨ob, 0, none⟩) S.length oc) ∧ w2.cell? ⟨ob, f, none⟩ = some (.slice ra (S.getD f []).length rc) ∧ w2.frozen? ⟨ob, f, none⟩ = false) := fun o w2 hg => edge_keep HM.out ER.out hg co fo
  generalize hSl : S.length = SL at *
  generalize hrl : (S.getD f []).length = rl at *
  have f0 : (0 : Int) ≤ (f : Int) := by omega
  have t0 : (0 : Int) ≤ (t : Int) := by omega
  have hne : ((f : Int) != (t : Int)) = true := by simp; omega
  have hne' : ¬ (f : Int) = (t : Int) := by omega
  have hf' : (f : Int) < (SL : Int) := by omega
  go_enter Try.func44, Try.ntmps44
  go_wp2_with fail
  go_region_law (refine step_append_lies _ rfl (.tmp 28) (.tmp 30) 23 rfl B 3 i3 (.int .i64 0) 1 8 Try.underlying23 hi3 hz30 hz31 hz32 rfl (by decide) (.slice ra rl rc) rl (zv (S.getD f [])) (by simp [Act.eval]) (HO.out.drew.alloc _) ⟨w.heap.size, 0, none⟩ 1 1 [.int .i64 (t : Int)] (by simp [Act.eval]) rfl (cell_one_at (by simp) _ _) (by simp [Value.oneCell']) (by omega) (by unfold maxLen; omega) (by omega) (by simp; exact Nat.le_succ_of_le HBs.out) (w.heap.size + 1) (by simp) ?_; intro g1 cap1 w2 hown2 hgrow hat hlt1; have k1 := (HE.out _ _ hgrow).1; have k2 := (HE.out _ _ hgrow).2.1; have k3 := (HE.out _ _ hgrow).2.2)
  all_goals (go_wp2_with fail; go_end0; exact ⟨rfl, edge_end HM.out hSl hf ER.out hrl hown2 hgrow hat⟩)
end Go.Proofs.Qxb6601646a.Nw
