import Derived.Test.Qxb6601646aNwSmall
import Derived.Test.Qxb6601646aNwCopy
import Derived.Deep.CutRange
namespace Go.Proofs.Qxb6601646a.Nw
open Go.RowKit Go.Proofs.Qxb6601646a.Tw Go.Proofs.Qxb6601646a.Np

structure RS (w wr : World) (sv : Value) (L : Nat) (seen mark : List Bool) (st : List Nat) : Prop where
  bel : Below w.heap.size w wr
  ase : Arr wr w.heap.size 4 (bv seen)
  ama : Arr wr (w.heap.size + 1) 4 (bv mark)
  own : wr.ownsRow (w.heap.size + 2) 3 1 sv L (iv st)
  len : st.length = L
theorem rs_mark {w wr : World} {sv : Value} {L i : Nat} {seen mark : List Bool} {st : List Nat} (h : RS w wr sv L seen mark st) : RS w (wr.setCell ⟨w.heap.size + 1, i, none⟩ (.bool true)) sv L seen (mark.set i true) st :=
  ⟨h.bel.setCell (Nat.le_succ _) _, h.ase.other (show w.heap.size ≠ w.heap.size + 1 by omega) _, by rw [← bv_set]; exact h.ama.set i _, ownsRow_setCell_below h.own (show w.heap.size + 1 < w.heap.size + 2 by omega) _, h.len⟩
theorem rs_push {w wr w2 : World} {sv sv2 : Value} {L x z : Nat} {seen mark : List Bool} {st : List Nat} (h : RS w wr sv L seen mark st)
    (ho : w2.ownsRow (w.heap.size + 2) 3 1 sv2 (L + 1) (iv st ++ [.int .i64 (z : Int)])) (hg : ((wr.setCell ⟨w.heap.size, x, none⟩ (.bool true)).alloc (.cells #[.int .i64 (z : Int)] 3)).grownBy w2 sv.ownBlock) :
    RS w w2 sv2 (L + 1) (seen.set x true) mark (st ++ [z]) := by
  have hsz := h.ama.lt
  have hob := own_base h.own
  refine ⟨?_, ?_, ?_, ?_, by simp [h.len]⟩
  · refine Below.grown ((h.bel.setCell (p := ⟨w.heap.size, x, none⟩) (Nat.le_refl _) _).alloc ?_ _) hg ?_ (fun k hk => by have := hob k hk; omega)
    · simp; omega
    · simp; omega
  · rw [← bv_set]
    exact ((h.ase.set x (.bool true)).alloc _).grown hg (fun e => by have := hob _ e.symm; omega)
  · exact ((h.ama.other (show w.heap.size + 1 ≠ w.heap.size by omega) _).alloc _).grown hg (fun e => by have := hob _ e.symm; omega)
  · rw [iv_append]; exact ho
theorem count_set_b' {l : List Bool} {p : Nat} (hp : p < l.length) (h : l.getD p false = false) : (l.set p true).count false + 1 = l.count false := by
  refine count_set_b l p ?_
  have := getD_of hp false
  rw [h] at this
  exact this

theorem mkb (n : Nat) (hn : n ≤ 65536) (wx : World) : (Instr.makeSlice 29 (.int .i64 (n : Int)) (.int .i64 (n : Int))).run Try.prog wx = .ok (.slice (some ⟨wx.heap.size, 0, none⟩) n n) (wx.alloc (.cells (bv (List.replicate n false)).toArray 4)) := by
  obtain ⟨i3, hi3, hz30, hz31, hz32⟩ := info_parts info4
  have h := run_make (P := Try.prog) wx 29 4 i3 (.bool false) Try.underlying29 hi3 hz30 .i64 .i64 n n (by omega) (Int.le_refl _) (by rw [hz32]; omega) (by omega)
  rw [h, hz31, Int.toNat_natCast, ← made_bv]
theorem arr_new {w : World} {g : Nat} {t : TypeId} (cs : List Value) (hg : w.heap.size = g) : Arr (w.alloc (.cells cs.toArray t)) g t cs := by
  subst hg; exact heap_alloc_new w _
theorem rs_start (w : World) (n m k z H : Nat) (hH : w.heap.size = H) : RS w ((((w.alloc (.cells (bv (List.replicate n false)).toArray 4)).alloc (.cells (bv (List.replicate m false)).toArray 4)).alloc (.cells #[.int .i64 (z : Int)] 3)).setCell ⟨H, k, none⟩ (.bool true)) (.slice (some ⟨H + 2, 0, none⟩) 1 1) 1 ((List.replicate n false).set k true) (List.replicate m false) [z] := by
  subst hH
  have a1 : Arr (w.alloc (.cells (bv (List.replicate n false)).toArray 4)) w.heap.size 4 (bv (List.replicate n false)) := arr_new _ rfl
  have a2 : Arr ((w.alloc (.cells (bv (List.replicate n false)).toArray 4)).alloc (.cells (bv (List.replicate m false)).toArray 4)) (w.heap.size + 1) 4 (bv (List.replicate m false)) := arr_new _ (by simp)
  have a3 : Arr (((w.alloc (.cells (bv (List.replicate n false)).toArray 4)).alloc (.cells (bv (List.replicate m false)).toArray 4)).alloc (.cells #[.int .i64 (z : Int)] 3)) (w.heap.size + 2) 3 [.int .i64 (z : Int)] := arr_new [.int .i64 (z : Int)] (by simp)
  refine ⟨Below.setCell (((Below.alloc (Below.refl _ _) (Nat.le_refl _) _).alloc (by simp) _).alloc (by simp; omega) _) (Nat.le_refl _) _, ?_, ?_, ?_, rfl⟩
  · rw [← bv_set]; exact ((a1.alloc _).alloc _).set k _
  · exact (a2.alloc _).other (show w.heap.size + 1 ≠ w.heap.size by omega) _
  · refine ownsRow_setCell_below ?_ (show w.heap.size < w.heap.size + 2 by omega) _
    exact ⟨rfl, .inr ⟨w.heap.size + 2, 1, #[.int .i64 (z : Int)], rfl, Nat.le_refl _, a3, by omega, by unfold maxLen; omega, rfl, rfl⟩⟩

theorem arr_start (w : World) (n m z k H : Nat) (hH : w.heap.size = H) (hk : k < n) : (((w.alloc (.cells (bv (List.replicate n false)).toArray 4)).alloc (.cells (bv (List.replicate m false)).toArray 4)).alloc (.cells #[.int .i64 (z : Int)] 3)).cell? ⟨H, k, none⟩ = some (.bool false) ∧ (((w.alloc (.cells (bv (List.replicate n false)).toArray 4)).alloc (.cells (bv (List.replicate m false)).toArray 4)).alloc (.cells #[.int .i64 (z : Int)] 3)).frozen? ⟨H, k, none⟩ = false := by
  have a1 : Arr (((w.alloc (.cells (bv (List.replicate n false)).toArray 4)).alloc (.cells (bv (List.replicate m false)).toArray 4)).alloc (.cells #[.int .i64 (z : Int)] 3)) H 4 (bv (List.replicate n false)) := ((arr_new _ hH).alloc _).alloc _
  refine ⟨?_, a1.free k⟩
  rw [a1.cell k, bv_at _ k (by simpa using hk)]
  rw [List.getD_eq_getElem?_getD, List.getElem?_replicate, if_pos hk]; rfl

set_option maxHeartbeats 2000000 in
set_option maxRecDepth 100000 in
theorem reach_any (aa sa : Option Addr) (nj ac sn sc n0 j : Nat) (J : List (Nat × Nat)) (adj : List (List Int)) (s : List Nat) (w : World) (hm : Mat w aa nj adj) (hr : Row w sa sn (ints s)) (ha : AdjOk J adj) (hJ : JOk n0 J) (hnj : nj ≤ 65536) (_hn0 : n0 ≤ 65536) (hsn : sn ≤ 65536) (hs : Asc s) (hj0 : n0 ≤ j) (hj1 : j < n0 + nj) (hl : ∀ y, y ∈ s ↔ Leaf n0 J j y) :
    Calls Try.prog 15 #[.slice aa nj ac, .int .i64 (n0 : Int), .int .i64 (j : Int), .slice sa sn sc] w fun e w' => e = .returned (.bool true) ∧ Below w.heap.size w w' := by
  obtain ⟨i3, hi3, hz30, hz31, hz32⟩ := info_parts info3
  have mk1 := mkb nj hnj
  have mk2 := mkb sn hsn
  have HM : Hid (Mat w aa nj adj) := hm
  have HR : Hid (Row w sa sn (ints s)) := hr
  have HA : Hid (AdjOk J adj ∧ JOk n0 J) := ⟨ha, hJ⟩
  have ejn : n0 + (j - n0) = j := by omega
  have HS : Hid (Asc s ∧ ∀ y, y ∈ s ↔ Leaf n0 J (n0 + (j - n0)) y) := ⟨hs, by rw [ejn]; exact hl⟩
  have HJl : Hid (J.length = nj) := by have h1 := hm.1; have h2 := ha.1; show _ = _; omega
  have HSn : Hid (s.length = sn) := row_len hr
  clear hm hr ha hJ hs hl
  obtain ⟨H, hH⟩ : ∃ H, w.heap.size = H := ⟨_, rfl⟩
  have hk1 : (j : Int) - (n0 : Int) < (nj : Int) := by omega
  have hk0 : (0 : Int) ≤ (j : Int) - (n0 : Int) := by omega
  have HRI : Hid (RI n0 J adj s (j - n0) 0 (adj.getD 0 []).length ((List.replicate nj false).set (j - n0) true) (List.replicate sn false) [j]) := by
    have := ri_start (n0 := n0) (j := j - n0) (J := J) (adj := adj) (s := s) (by rw [HJl.out]; omega) HS.out.2 0 (adj.getD 0 []).length
    rw [HJl.out, HSn.out, ejn] at this
    exact this
  have HRS : Hid (RS w ((((w.alloc (.cells (bv (List.replicate nj false)).toArray 4)).alloc (.cells (bv (List.replicate sn false)).toArray 4)).alloc (.cells #[.int .i64 (j : Int)] 3)).setCell ⟨H, j - n0, none⟩ (.bool true)) (.slice (some ⟨H + 2, 0, none⟩) 1 1) 1 ((List.replicate nj false).set (j - n0) true) (List.replicate sn false) [j]) := rs_start w nj sn (j - n0) j H hH
  obtain ⟨cs, fs⟩ := arr_start w nj sn j (j - n0) H hH (by omega)
  go_enter Try.func15, Try.ntmps15
  go_upto_region 4 with fail
  generalize (((w.alloc (.cells (bv (List.replicate nj false)).toArray 4)).alloc (.cells (bv (List.replicate sn false)).toArray 4)).alloc (.cells #[.int .i64 (j : Int)] 3)) = w1 at *
  clear mk1 mk2
  go_wp2_with fail
  generalize w1.setCell ⟨H, j - n0, none⟩ (.bool true) = w2 at *
  clear cs fs
  go_loopg [11] (1 + 2 * ((List.replicate nj false).set (j - n0) true).count false) (fun gh sv wr => ∃ (L : Nat) (seen mark : List Bool) (st : List Nat) (u : Nat), Hid (RS w wr sv L seen mark st) ∧ Hid (RI n0 J adj s (j - n0) u (adj.getD u []).length seen mark st) ∧ Hid (gh = L + 2 * seen.count false))
  case atStart => exact ⟨1, _, _, _, 0, HRS, HRI, rfl⟩
  case round =>
    clear HRS HRI
    obtain ⟨L, seen, mark, st, u0, HRS, HRI, HG⟩ := hrel
    have hLn : L ≤ nj := by have h1 := HRI.out.cnt; have h2 := HRS.out.len; rw [HJl.out] at h1; omega
    by_cases h0 : L = 0
    · subst h0
      have e : st = [] := List.eq_nil_of_length_eq_zero HRS.out.len
      obtain ⟨va, vc, rfl⟩ := own_val HRS.out.own
      have HEnd : Hid (∀ i, i < sn → mark[i]? = some true) := fun i hi => by
        have h1 := HRI.out
        rw [e] at h1
        exact ri_end HA.out.1 h1 (Nat.le_refl _) HS.out.1 HS.out.2 i (by rw [HSn.out]; exact hi)
      go_wp2_with fail
      go_loop [16] (fun iv => ∃ i : Nat, i ≤ sn ∧ iv = .int .i64 (i : Int)) (fun iv => sn - (intOf iv).toNat)
      case atStart => exact ⟨0, Nat.zero_le _, rfl⟩
      case round =>
        obtain ⟨i, hi, rfl⟩ := hrel
        by_cases hin : i < sn
        · have hin' : (i : Int) < (sn : Int) := by omega
          have cm : wr.cell? ⟨H + 1, i, none⟩ = some (.bool true) := by
            have h1 := HRS.out.ama.cell i
            rw [hH] at h1
            rw [h1]
            unfold bv
            rw [List.getElem?_map, HEnd.out i hin]; rfl
          go_wp2_with fail
          go_round
          case rel => exact ⟨i + 1, by omega, by go_num⟩
          case measure => simp [intOf]; omega
        · have hin' : ¬ (i : Int) < (sn : Int) := by omega
          have HBe : Hid (Below w.heap.size w wr) := HRS.out.bel
          clear HRS HRI
          go_wp2_with fail
          go_ret
          exact ⟨ret_bool rfl, by first | exact HBe.out | (rw [hH] at HBe; exact HBe.out)⟩
    · obtain ⟨L', rfl⟩ : ∃ L', L = L' + 1 := ⟨L - 1, by omega⟩
      obtain ⟨st', u, rfl⟩ : ∃ st' u, st = st' ++ [u] := by
        have hne : st ≠ [] := fun e => by have := HRS.out.len; rw [e] at this; simp at this
        exact ⟨st.dropLast, st.getLast hne, (List.dropLast_concat_getLast hne).symm⟩
      have hL' : st'.length = L' := by have := HRS.out.len; simpa using this
      obtain ⟨hu0, hu1, hus⟩ := HRI.out.sto u (by simp)
      have HUs : Hid (seen[u - n0]? = some true) := hus
      rw [HJl.out] at hu1
      have hown := HRS.out.own
      obtain ⟨g, cap, rfl, hg1, hg2⟩ := hown.form (by omega)
      have hcap : L' + 1 ≤ cap := by
        rcases hown.2 with ⟨h, _⟩ | ⟨_, _, _, h, _, _, h4, _⟩
        · cases h
        · cases h; exact h4
      have hcu : wr.cell? ⟨g, L', none⟩ = some (.int .i64 (u : Int)) := by
        rw [own_cell hown L' (by omega), iv_append, List.getElem?_append_right (by rw [iv_length]; omega), iv_length, hL']
        simp [iv]
      have hown' : wr.ownsRow (w.heap.size + 2) 3 1 (.slice (some ⟨g, 0, none⟩) L' cap) L' (iv st') := ownsRow_pop (by rw [iv_length, hL']; omega) (by rw [iv_append] at hown; exact hown)
      have HRS0 : Hid (RS w wr (.slice (some ⟨g, 0, none⟩) L' cap) L' seen mark st') := ⟨HRS.out.bel, HRS.out.ase, HRS.out.ama, hown', hL'⟩
      have HRI0 : Hid (RI n0 J adj s (j - n0) (u - n0) 0 seen mark st') := ri_pop (v := u - n0) (by rw [show n0 + (u - n0) = u from by omega]; exact HRI.out) (Nat.le_refl _)
      have HG0 : Hid (L' + 2 * seen.count false < gk) := by have := HG.out; show _ < _; omega
      obtain ⟨b, off, rfl, hb, a', lu, c', hcell, hlu, hrow⟩ := HM.out.at (u - n0) (by omega)
      have cr := (HRS.out.bel.cell (p := ⟨b, off + (u - n0), none⟩) hb).trans hcell
      have HRow : Hid (Row w a' lu (adj.getD (u - n0) [])) := hrow
      have hcap' : (L' : Int) ≤ (cap : Int) := by omega
      have hLL : (L' : Int) < (L' : Int) + 1 := by omega
      have h01 : (0 : Int) < (L' : Int) + 1 := by omega
      have hui : (u : Int) - (n0 : Int) < (nj : Int) := by omega
      have hui0 : (0 : Int) ≤ (u : Int) - (n0 : Int) := by omega
      clear hown hown' hrow hcell HRS HRI HG hus hL' h0
      go_wp2_with fail
      go_loopw [11, 51] (fun sv iv wr => ∃ (k L : Nat) (seen mark : List Bool) (st : List Nat), k ≤ lu ∧ iv = .int .i64 (k : Int) ∧ Hid (RS w wr sv L seen mark st) ∧ Hid (RI n0 J adj s (j - n0) (u - n0) k seen mark st) ∧ Hid (L + 2 * seen.count false < gk) ∧ Hid (seen[u - n0]? = some true)) (fun _ iv _ => lu - (intOf iv).toNat)
      case atStart => exact ⟨0, L', seen, mark, st', Nat.zero_le _, rfl, HRS0, HRI0, HG0, HUs⟩
      case round =>
        clear HRS0 HRI0 HG0 HUs hg1 hg2 hcap hcu hcap' hLL h01 cr hui hui0
        obtain ⟨k, L, seen, mark, st, hk, rfl, HRS, HRI, HG, HUs⟩ := hrel
        obtain ⟨va, vc, rfl⟩ := own_val HRS.out.own
        have hLn : L ≤ nj := by have h1 := HRI.out.cnt; have h2 := HRS.out.len; rw [HJl.out] at h1; omega
        by_cases hkl : k < lu
        · have hkl' : (k : Int) < (lu : Int) := by omega
          obtain ⟨b', off', rfl, hb', hc0⟩ := HRow.out.at k hkl
          have cx := (HRS.out.bel.cell (p := ⟨b', off' + k, none⟩) hb').trans hc0
          have EW : Hid ((adj.getD (u - n0) [])[k]? = some ((adj.getD (u - n0) []).getD k 0)) := getD_of (by rw [HRow.out.1]; exact hkl) 0
          obtain ⟨z, hz, hzn, hzl⟩ := ri_next HA.out.1 HA.out.2 HRI.out HUs.out EW.out
          have HZL : Hid (∀ x, Leaf n0 J z x → x ∈ s) := hzl
          rw [hz] at cx EW
          rw [HJl.out] at hzn
          clear hc0 hz hzl
          by_cases hz0 : z < n0
          · have hz0' : (z : Int) < (n0 : Int) := by omega
            have HF : Hid (Calls Try.prog 33 #[.slice sa sn sc, .int .i64 (z : Int)] wr fun e w' => (∃ i : Nat, s[i]? = some z ∧ e = .returned (.int .i64 (i : Int))) ∧ w' = wr) := find_any sa sn sc z s wr (HR.out.keep HRS.out.bel) (by omega) HS.out.1 (HZL.out z (Leaf.old hz0))
            go_wp2_with fail
            refine HF.out.mono ?_
            rintro e w3 ⟨⟨i, hi, rfl⟩, rfl⟩
            have his : i < sn := by rw [← HSn.out]; exact (List.getElem?_eq_some_iff.1 hi).1
            have his' : (i : Int) < (sn : Int) := by omega
            have i0 : ¬ (i : Int) < 0 := by omega
            have cm : w3.cell? ⟨H + 1, i, none⟩ = some (.bool (mark.getD i false)) := by
              have h1 := HRS.out.ama.cell i
              rw [hH, bv_at mark i (by rw [HRI.out.lm, HSn.out]; exact his)] at h1
              exact h1
            have fm : w3.frozen? ⟨H + 1, i, none⟩ = false := by have h1 := HRS.out.ama.free i; rw [hH] at h1; exact h1
            have HRS2 : Hid (RS w (w3.setCell ⟨H + 1, i, none⟩ (.bool true)) (.slice va L vc) L seen (mark.set i true) st) := by
              have h1 := rs_mark (i := i) HRS.out
              rw [hH] at h1
              exact h1
            have HRI2 : Hid (RI n0 J adj s (j - n0) (u - n0) (k + 1) seen (mark.set i true) st) := ri_old HRI.out EW.out hz0 hi
            clear HF hi HRS HRI EW cx
            generalize mark.getD i false = mi at *
            go_wp2_with fail
            go_roundw
            case rel => exact ⟨k + 1, L, seen, _, st, by omega, by go_num, HRS2, HRI2, HG, HUs⟩
            case measure => simp [intOf]; omega
          · have hz0' : ¬ (z : Int) < (n0 : Int) := by omega
            have hz2 : (z : Int) - (n0 : Int) < (nj : Int) := by omega
            have hz3 : (0 : Int) ≤ (z : Int) - (n0 : Int) := by omega
            have hzs : z - n0 < seen.length := by rw [HRI.out.ls, HJl.out]; omega
            have cz : wr.cell? ⟨H, z - n0, none⟩ = some (.bool (seen.getD (z - n0) false)) := by
              have h1 := HRS.out.ase.cell (z - n0)
              rw [hH, bv_at seen _ hzs] at h1
              exact h1
            cases hse : seen.getD (z - n0) false with
            | true =>
              rw [hse] at cz
              have HRI2 : Hid (RI n0 J adj s (j - n0) (u - n0) (k + 1) seen mark st) := ri_seen HRI.out EW.out (by omega) (by have := getD_of hzs false; rw [hse] at this; exact this)
              clear HRI EW hse
              go_wp2_with fail
              go_roundw
              case rel => exact ⟨k + 1, L, seen, mark, st, by omega, by go_num, HRS, HRI2, HG, HUs⟩
              case measure => simp [intOf]; omega
            | false =>
              rw [hse] at cz
              have fz : wr.frozen? ⟨H, z - n0, none⟩ = false := by have h1 := HRS.out.ase.free (z - n0); rw [hH] at h1; exact h1
              have HRI2 : Hid (RI n0 J adj s (j - n0) (u - n0) (k + 1) (seen.set (z - n0) true) mark (st ++ [z])) := ri_push HRI.out EW.out (by omega) (by have := getD_of hzs false; rw [hse] at this; exact this) HZL.out
              have HG2 : Hid (L + 1 + 2 * (seen.set (z - n0) true).count false < gk) := by
                have h1 := count_set_b' hzs hse
                have h2 := HG.out
                show _ < _
                omega
              have HUs2 : Hid ((seen.set (z - n0) true)[u - n0]? = some true) := set_true HUs.out
              have hszw : w.heap.size + 1 < wr.heap.size := HRS.out.ama.lt
              rw [hH] at hszw
              have HOw : Hid (wr.ownsRow (H + 2) 3 1 (.slice va L vc) L (iv st)) := by have h1 := HRS.out.own; rw [hH] at h1; exact h1
              clear hse EW HRI
              go_wp2_with (at_builtin; refine wpList_append_lies _ rfl _ _ 23 rfl (H + 2) 3 i3 (.int .i64 0) 1 8 Try.underlying23 hi3 hz30 hz31 hz32 rfl (by decide) _ L _ rfl ((ownsRow_setCell_below HOw.out (show H < H + 2 by omega) _).alloc _) ⟨wr.heap.size, 0, none⟩ 1 1 [.int .i64 (z : Int)] rfl rfl (cell_one_at (by simp) _ _) (by simp [Value.oneCell']) (by omega) (by unfold maxLen; omega) (by omega) (by simp; omega) (wr.heap.size + 1) (by simp) ?_; intro g1 cap1 w2 hown2 hgrow hat hlt1)
              have HRS2 : Hid (RS w w2 (.slice (some ⟨g1, 0, none⟩) (L + 1) cap1) (L + 1) (seen.set (z - n0) true) mark (st ++ [z])) := rs_push HRS.out (by rw [hH]; exact hown2) (by rw [hH]; exact hgrow)
              clear hown2 hgrow hat HOw HRS
              go_wp2_with fail
              go_roundw
              case rel => exact ⟨k + 1, L + 1, _, mark, _, by omega, by go_num, HRS2, HRI2, HG2, HUs2⟩
              case measure => simp [intOf]; omega
        · have hkl' : ¬ (k : Int) < (lu : Int) := by omega
          have HRI2 : Hid (RI n0 J adj s (j - n0) (u - n0) (adj.getD (u - n0) []).length seen mark st) := by
            have h1 := HRI.out
            rw [show k = (adj.getD (u - n0) []).length from by rw [HRow.out.1]; omega] at h1
            exact h1
          clear HRI
          go_wp2_with fail
          go_roundg (L + 2 * seen.count false)
          case measure => exact HG.out
          case rel => exact ⟨L, seen, mark, st, u - n0, HRS, HRI2, rfl⟩
end Go.Proofs.Qxb6601646a.Nw
