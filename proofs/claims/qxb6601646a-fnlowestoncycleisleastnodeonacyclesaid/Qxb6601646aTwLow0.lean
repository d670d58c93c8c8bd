import Derived.Test.Qxb6601646aTwMem
import Derived.Test.Qxb6601646aMinShelf
import Derived.Deep.CutRange
import Derived.StillTailTactics
namespace Go.Proofs.Qxb6601646a.Tw
open Go.RowKit Go.Proofs.Qxb6601646a.Tj

theorem mk_ints (n : Nat) (hn : n ≤ 4096) (wx : World) : (Instr.makeSlice 23 (.int .i64 (n : Int)) (.int .i64 (n : Int))).run Try.prog wx = .ok (.slice (some ⟨wx.heap.size, 0, none⟩) n n) (wx.alloc (.cells (iv (List.replicate n 0)).toArray 3)) := by
  obtain ⟨i3, hi3, hz30, hz31, hz32⟩ := info_parts info3
  have h := run_make (P := Try.prog) wx 23 3 i3 (.int .i64 0) Try.underlying23 hi3 hz30 .i64 .i64 n n (by omega) (Int.le_refl _) (by rw [hz32]; omega) (by omega)
  rw [h, hz31, Int.toNat_natCast, ← made_iv]
theorem mk_bools (n : Nat) (hn : n ≤ 4096) (wx : World) : (Instr.makeSlice 29 (.int .i64 (n : Int)) (.int .i64 (n : Int))).run Try.prog wx = .ok (.slice (some ⟨wx.heap.size, 0, none⟩) n n) (wx.alloc (.cells (bv (List.replicate n false)).toArray 4)) := by
  obtain ⟨i3, hi3, hz30, hz31, hz32⟩ := info_parts info4
  have h := run_make (P := Try.prog) wx 29 4 i3 (.bool false) Try.underlying29 hi3 hz30 .i64 .i64 n n (by omega) (Int.le_refl _) (by rw [hz32]; omega) (by omega)
  rw [h, hz31, Int.toNat_natCast, ← made_bv]

theorem disc_at {S : List (List Nat)} {B n r : Nat} {gv : List Value} {w0 w : World} {s : TS} {m : Int} {sv cv : Value} {v : Nat} (h : TM B n gv w0 w s sv cv) (hj : TJ S n r s m) (hv : v < n) (hn : n ≤ 4096) :
    Calls Try.prog 42 #[.int .i64 (v : Int), .pointer (some ⟨B + 9, 0, none⟩), .pointer (some ⟨B + 2, 0, none⟩), .pointer (some ⟨B + 4, 0, none⟩), .pointer (some ⟨B + 6, 0, none⟩), .pointer (some ⟨B + 7, 0, none⟩), .pointer (some ⟨B + 8, 0, none⟩)] w fun e w' => e = .returned (.tuple #[]) ∧ ∃ sv' cv', Hid (TM B n gv w0 w' (disc s v) sv' cv') := by
  have hfn := hj.fn
  exact disc_any B n gv w0 w s sv cv v h hv (by have := hj.bs; omega) (by have := hj.bc; omega) (by omega) hj.ti.lr hj.ti.ll hj.ti.lo
theorem tm_top {B n : Nat} {gv : List Value} {w0 w : World} {s : TS} {sv cv : Value} {cs : List (Nat × Nat)} {v k : Nat} (h : TM B n gv w0 w s sv cv) (ec : s.calls = cs ++ [(v, k)]) :
    ∃ g cap, cv = .slice (some ⟨g, 0, none⟩) (cs.length + 1) cap ∧ B + 10 ≤ g ∧ cs.length + 1 ≤ cap ∧ w.cell? ⟨g, cs.length * 2, none⟩ = some (.int .i64 (v : Int)) ∧ w.cell? ⟨g, cs.length * 2 + 1, none⟩ = some (.int .i64 (k : Int)) ∧ w.frozen? ⟨g, cs.length * 2 + 1, none⟩ = false := by
  have hl : s.calls.length = cs.length + 1 := by rw [ec]; simp
  have hca := h.hca
  rw [hl, ec] at hca
  obtain ⟨g, cap, rfl, hb, _⟩ := hca.form (by omega)
  have hcap : cs.length + 1 ≤ cap ∧ ∃ cur, w.heap[g]? = some (.cells cur 90 (0, 0)) := by
    rcases hca.2 with ⟨h, _⟩ | ⟨_, _, cur, h, _, h3, h4, _⟩
    · cases h
    · cases h; exact ⟨h4, cur, h3⟩
  obtain ⟨hcap, cur, hcur⟩ := hcap
  obtain ⟨t1, t2⟩ := fv_top cs v k
  refine ⟨g, cap, rfl, hb, hcap, ?_, ?_, ?_⟩
  · rw [own_cell hca _ (by omega)]; exact t1
  · rw [own_cell hca _ (by omega)]; exact t2
  · simp [World.frozen?, hcur]
/-- The top call's frame leaves. -/
theorem TM.leave {B n : Nat} {gv : List Value} {w0 w : World} {s : TS} {sv : Value} {g cap v k : Nat} {cs : List (Nat × Nat)} (h : TM B n gv w0 w s sv (.slice (some ⟨g, 0, none⟩) (cs.length + 1) cap)) (ec : s.calls = cs ++ [(v, k)]) :
    TM B n gv w0 (w.setCell ⟨B + 8, 0, none⟩ (.slice (some ⟨g, 0, none⟩) cs.length cap)) { s with calls := cs } sv (.slice (some ⟨g, 0, none⟩) cs.length cap) := by
  have hl : s.calls.length = cs.length + 1 := by rw [ec]; simp
  have hca := h.hca
  rw [hl, ec] at hca
  have h2 := own_take (m := cs.length) hca (by omega)
  rw [fv_append, List.take_left' (fv_length cs)] at h2
  exact h.calls h2
theorem lower_at {S : List (List Nat)} {n : Nat} {s : TS} {cs : List (Nat × Nat)} {v k : Nat} (h : TI S n s) (ec : s.calls = cs ++ [(v, k)]) : (lower s cs v).getD v 0 = lw s v := by
  unfold lower
  cases hg : cs.getLast? with
  | none => rfl
  | some f =>
    have hf : f ∈ cs := List.mem_of_getLast? hg
    have hR := h.caR
    rw [ec, List.pairwise_append] at hR
    have h1 := hR.2.2 f hf (v, k) (by simp)
    have hne : f.1 ≠ v := fun e => by rw [e] at h1; exact Nat.lt_irrefl _ h1
    show (s.low.set f.1 _).getD v 0 = _
    rw [Tj.getD_set_ne _ _ _ _ _ hne]; rfl
theorem tm_stack {B n : Nat} {gv : List Value} {w0 w : World} {s : TS} {sv cv : Value} (h : TM B n gv w0 w s sv cv) (hne : 0 < s.st.length) :
    ∃ g cap, sv = .slice (some ⟨g, 0, none⟩) s.st.length cap ∧ B + 10 ≤ g ∧ s.st.length ≤ cap ∧ ∀ j, j < s.st.length → w.cell? ⟨g, j, none⟩ = some (.int .i64 ((s.st.getD j 0 : Nat) : Int)) := by
  have hst := h.hst
  obtain ⟨g, cap, rfl, hb, _⟩ := hst.form hne
  have hcap : s.st.length ≤ cap := by
    rcases hst.2 with ⟨h, _⟩ | ⟨_, _, cur, h, _, h3, h4, _⟩
    · cases h
    · cases h; exact h4
  refine ⟨g, cap, rfl, hb, hcap, fun j hj => ?_⟩
  rw [own_cell hst _ (by omega)]; exact iv_at _ _ hj
theorem TM.cut {B n : Nat} {gv : List Value} {w0 w : World} {s : TS} {cv : Value} {g cap : Nat} {pre rest : List Nat} (h : TM B n gv w0 w s (.slice (some ⟨g, 0, none⟩) s.st.length cap) cv) (es : s.st = pre ++ rest) :
    TM B n gv w0 (w.setCell ⟨B + 7, 0, none⟩ (.slice (some ⟨g, 0, none⟩) pre.length cap)) { s with st := pre } (.slice (some ⟨g, 0, none⟩) pre.length cap) cv := by
  have hst := h.hst
  have h2 := own_take (m := pre.length) hst (by rw [es]; simp)
  rw [es, iv_append, List.take_left' (by rw [iv_length]; omega)] at h2
  exact h.stack h2
theorem foldl_min_cast : ∀ (l : List Nat) (a : Nat), (ints l).foldl min (a : Int) = ((l.foldl min a : Nat) : Int)
  | [], a => rfl
  | b :: l, a => by
    show (ints l).foldl min (min (a : Int) (b : Int)) = _
    rw [show min (a : Int) (b : Int) = ((min a b : Nat) : Int) from by omega, foldl_min_cast l]; rfl
theorem min_least (a : Nat) (l : List Nat) : Lib.minOf (ints (a :: l)) = ((least (a :: l) : Nat) : Int) := by
  show (ints l).foldl min (min (a : Int) (a : Int)) = _
  rw [show min (a : Int) (a : Int) = (a : Int) from by omega, foldl_min_cast]; rfl
theorem getD_behind (pre post : List Nat) (v d : Nat) : (pre ++ v :: post).getD (pre.length + d) 0 = (v :: post).getD d 0 := by
  rw [List.getD_eq_getElem?_getD, List.getD_eq_getElem?_getD, List.getElem?_append_right (Nat.le_add_right _ _), Nat.add_sub_cancel_left]
theorem getD_mem {l : List Nat} {d : Nat} (h : d < l.length) : l.getD d 0 ∈ l := by
  rw [List.getD_eq_getElem?_getD, List.getElem?_eq_getElem h]; exact List.getElem_mem h
theorem take_getD {l : List Nat} {d : Nat} (h : d < l.length) : l.take (d + 1) = l.take d ++ [l.getD d 0] := by
  rw [List.take_succ_eq_append_getElem h, List.getD_eq_getElem?_getD, List.getElem?_eq_getElem h]; rfl
theorem arr_new {w : World} {g : Nat} {t : TypeId} (cs : List Value) (_ : TypeId) (hg : w.heap.size = g) : Arr (w.alloc (.cells cs.toArray t)) g t cs := by
  subst hg; exact heap_alloc_new w _
theorem tm_start (w : World) (B n c : Nat) (a : Option Addr) (nv tv : Value) (hB : w.heap.size = B) : TM B n [.slice a n c, nv, tv] w ((((((((((w.alloc (.cells #[.slice a n c, nv, tv] 58)).alloc (.cells (iv (List.replicate n 0)).toArray 3)).alloc (.cells #[.slice (some ⟨B + 1, 0, none⟩) n n] 23)).alloc (.cells (iv (List.replicate n 0)).toArray 3)).alloc (.cells #[.slice (some ⟨B + 3, 0, none⟩) n n] 23)).alloc (.cells (bv (List.replicate n false)).toArray 4)).alloc (.cells #[.slice (some ⟨B + 5, 0, none⟩) n n] 29)).alloc (.cells #[.slice none 0 0] 23)).alloc (.cells #[.slice none 0 0] 88)).alloc (.cells #[.int .i64 0] 3)) (Tj.start n) (.slice none 0 0) (.slice none 0 0) := by
  refine ⟨hB, ?_, ⟨rfl, .inl ⟨rfl, rfl⟩⟩, ⟨rfl, .inl ⟨rfl, rfl⟩⟩, ?_, ?_, ?_, ?_, ?_, ?_, ?_, ?_, ?_, ?_⟩
  · refine Below.alloc (Below.alloc (Below.alloc (Below.alloc (Below.alloc (Below.alloc (Below.alloc (Below.alloc (Below.alloc (Below.alloc (Below.refl _ _) ?_ _) ?_ _) ?_ _) ?_ _) ?_ _) ?_ _) ?_ _) ?_ _) ?_ _) ?_ _ <;> first | omega | (simp; omega)
  · exact Arr.alloc (Arr.alloc (Arr.alloc (Arr.alloc (Arr.alloc (Arr.alloc (Arr.alloc (Arr.alloc (Arr.alloc (arr_new _ 0 (by simp [hB])) _) _) _) _) _) _) _) _) _
  · exact Arr.alloc (Arr.alloc (Arr.alloc (Arr.alloc (Arr.alloc (Arr.alloc (Arr.alloc (Arr.alloc (arr_new _ 0 (by simp [hB])) _) _) _) _) _) _) _) _
  · exact Arr.alloc (Arr.alloc (Arr.alloc (Arr.alloc (Arr.alloc (Arr.alloc (Arr.alloc (arr_new _ 0 (by simp [hB])) _) _) _) _) _) _) _
  · exact Arr.alloc (Arr.alloc (Arr.alloc (Arr.alloc (Arr.alloc (Arr.alloc (arr_new _ 0 (by simp [hB])) _) _) _) _) _) _
  · exact Arr.alloc (Arr.alloc (Arr.alloc (Arr.alloc (Arr.alloc (arr_new _ 0 (by simp [hB])) _) _) _) _) _
  · exact Arr.alloc (Arr.alloc (Arr.alloc (Arr.alloc (arr_new _ 0 (by simp [hB])) _) _) _) _
  · exact Arr.alloc (Arr.alloc (Arr.alloc (arr_new _ 0 (by simp [hB])) _) _) _
  · exact Arr.alloc (Arr.alloc (arr_new _ 0 (by simp [hB])) _) _
  · exact Arr.alloc (arr_new _ 0 (by simp [hB])) _
  · exact arr_new _ 0 (by simp [hB])

def firstLoop : Code → Option Code
  | .loop c => some c
  | .seq a b => match firstLoop a with
    | some c => some c
    | none => firstLoop b
  | .block _ c => firstLoop c
  | .scope c => firstLoop c
  | .cond _ a b => match firstLoop a with
    | some c => some c
    | none => firstLoop b
  | _ => none
end Go.Proofs.Qxb6601646a.Tw
