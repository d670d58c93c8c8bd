import Derived.Test.Qxb6601646aNwEdge
namespace Go.Proofs.Qxb6601646a.Nw
open Go.RowKit Go.Proofs.Qxb6601646a.Tw Go.Proofs.Qxb6601646a.Np
variable {B G N nb size : Nat} {wB w : World} {fw : Bool} {gv tv wv ov nv sv : Value} {S : List (List Int)} {nd : List Int} {rv : List Value}

theorem nedge_any (h : GM B G N nb wB w fw size gv tv wv ov nv S nd sv rv) (a b : Nat) (hne : a ≠ b) (hl : (if fw then a else b) < S.length) (hrow : (S.getD (if fw then a else b) []).length ≤ 1000000) :
    Calls Try.prog 37 #[.pointer (some ⟨N, 0, none⟩), .int .i64 (a : Int), .int .i64 (b : Int)] w fun e w' => e = .returned (.tuple #[]) ∧ ∃ sv' rv', Hid (GM B G N nb wB w' fw size gv tv wv ov nv (if fw then addE S a (b : Int) else addE S b (a : Int)) nd sv' rv') := by
  have c0 : w.cell? ⟨N, 0, none⟩ = some (.pointer (some ⟨G, 0, none⟩)) := h.hN.cell 0
  have c1 : w.cell? ⟨N, 1, none⟩ = some (.bool fw) := h.hN.cell 1
  cases fw with
  | true =>
    have HC : Hid (Calls Try.prog 44 #[.pointer (some ⟨G, 0, none⟩), .int .i64 (a : Int), .int .i64 (b : Int)] w fun e w' => e = .returned (.tuple #[]) ∧ ∃ sv' rv', Hid (GM B G N nb wB w' true size gv tv wv ov nv (addE S a (b : Int)) nd sv' rv')) := edge_any h a b (by simpa using hl) hne (by simpa using hrow)
    clear h hl hrow
    go_enter Try.func37, Try.ntmps37
    go_wp2_with fail
    refine HC.out.mono ?_
    rintro e w2 ⟨rfl, sv', rv', HG⟩
    clear HC
    go_wp2_with fail
    go_end0
    exact ⟨rfl, sv', rv', HG⟩
  | false =>
    have HC : Hid (Calls Try.prog 44 #[.pointer (some ⟨G, 0, none⟩), .int .i64 (b : Int), .int .i64 (a : Int)] w fun e w' => e = .returned (.tuple #[]) ∧ ∃ sv' rv', Hid (GM B G N nb wB w' false size gv tv wv ov nv (addE S b (a : Int)) nd sv' rv')) := edge_any h b a (by simpa using hl) (fun e => hne e.symm) (by simpa using hrow)
    clear h hl hrow
    go_enter Try.func37, Try.ntmps37
    go_wp2_with fail
    refine HC.out.mono ?_
    rintro e w2 ⟨rfl, sv', rv', HG⟩
    clear HC
    go_wp2_with fail
    go_end0
    exact ⟨rfl, sv', rv', HG⟩

theorem info23 : (Try.prog.info? 23).map (fun i => (i.zero, i.size, i.bytes)) = some (some (.slice none 0 0), 1, 24) := by kernel_rfl
theorem junc_end {sa : Option Addr} {SL sc g1 cap1 : Nat} {o : Obj} {w2 : World} (h : GM B G N nb wB w fw size gv tv wv ov nv S nd (.slice sa SL sc) rv) (hSL : S.length = SL) (hown : w2.ownsRow B 23 1 (.slice (some ⟨g1, 0, none⟩) (SL + 1) cap1) (SL + 1) (rv ++ [.slice none 0 0])) (hg : (w.alloc o).grownBy w2 (Value.slice sa SL sc).ownBlock) (hat : (Value.slice sa SL sc).ownBlock = some g1 ∨ g1 = w.heap.size + 1) :
    Hid (GM B G N nb wB (w2.setCell ⟨G, 0, none⟩ (.slice (some ⟨g1, 0, none⟩) (SL + 1) cap1)) fw size gv tv wv ov nv (S ++ [[]]) nd (.slice (some ⟨g1, 0, none⟩) (SL + 1) cap1) (rv ++ [nilv])) ∧ w2.cell? ⟨G, 0, none⟩ = some (.slice sa SL sc) ∧ w2.frozen? ⟨G, 0, none⟩ = false := by
  subst hSL
  have k := h.more hown hg hat
  exact ⟨k.1, k.2.cell 0, k.2.free 0⟩
set_option maxHeartbeats 1000000 in
set_option maxRecDepth 100000 in
theorem junc_any (h : GM B G N nb wB w fw size gv tv wv ov nv S nd sv rv) (hl : S.length ≤ 1000000) :
    Calls Try.prog 36 #[.pointer (some ⟨G, 0, none⟩)] w fun e w' => e = .returned (.int .i64 (S.length : Int)) ∧ ∃ sv' rv', Hid (GM B G N nb wB w' fw size gv tv wv ov nv (S ++ [[]]) nd sv' rv') := by
  obtain ⟨i3, hi3, hz30, hz31, hz32⟩ := info_parts info23
  obtain ⟨sa, sc, hsv⟩ := own_val h.hsv
  have HM : Hid (GM B G N nb wB w fw size gv tv wv ov nv S nd sv rv) := h
  have c0 := h.hG.cell 0
  have hsz : B ≤ w.heap.size := Nat.le_trans h.gB (Nat.le_of_lt h.hG.lt)
  have c0' : w.cell? ⟨G, 0, none⟩ = some sv := c0
  clear h c0
  subst hsv
  generalize hSl : S.length = SL at *
  have HSl : Hid (S.length = SL) := hSl
  clear hSl
  go_enter Try.func36, Try.ntmps36
  go_wp2_with (at_builtin; refine wpList_append_lies _ rfl _ _ 22 rfl B 23 i3 (.slice none 0 0) 1 24 Try.underlying22 hi3 hz30 hz31 hz32 rfl (by decide) _ SL rv rfl (own_conv (HM.out.hsv.alloc _) HSl.out rfl) ⟨w.heap.size, 0, none⟩ 1 1 [.slice none 0 0] rfl rfl (cell_one_at rfl _ _) (by simp [Value.oneCell']) (by omega) (by unfold maxLen; omega) (by omega) (by simp; omega) (w.heap.size + 1) (by simp) ?_; intro g1 cap1 w2 hown2 hgrow hat hlt1; have KK := junc_end HM.out HSl.out hown2 hgrow hat; have HG := KK.1; have c1 := KK.2.1; have f1 := KK.2.2; clear KK)
  go_ret
  exact ⟨rfl, _, _, HG⟩
end Go.Proofs.Qxb6601646a.Nw
