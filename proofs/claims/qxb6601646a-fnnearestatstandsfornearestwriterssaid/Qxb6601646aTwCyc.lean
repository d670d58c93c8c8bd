import Derived.Test.Qxb6601646aTwSmall
import Derived.OneCell
import Derived.WalkSmall
import Derived.Deep.AppendLies
import Derived.Laws.CopyOwn
import Derived.Handy
import Derived.Laws.OwnMore
import Derived.Deep.LoopGhost
namespace Go.Proofs.Qxb6601646a.Tw
open Go.RowKit Go.Proofs.Qxb6601646a.Tj

/-! ### rows of the call's own -/
/-- The block g is just the cells cs. -/
def Arr (w : World) (g : Nat) (t : TypeId) (cs : List Value) : Prop := w.heap[g]? = some (.cells cs.toArray t (0, 0))
theorem Arr.lt {w : World} {g : Nat} {t : TypeId} {cs : List Value} (h : Arr w g t cs) : g < w.heap.size := (Array.getElem?_eq_some_iff.1 h).1
theorem Arr.cell {w : World} {g : Nat} {t : TypeId} {cs : List Value} (h : Arr w g t cs) (j : Nat) : w.cell? ⟨g, j, none⟩ = cs[j]? := by
  rw [cell_of_row w g j _ t _ h, List.getElem?_toArray]
theorem Arr.free {w : World} {g : Nat} {t : TypeId} {cs : List Value} (h : Arr w g t cs) (j : Nat) : w.frozen? ⟨g, j, none⟩ = false := by
  have h' : w.heap[g]? = some (.cells cs.toArray t (0, 0)) := h
  simp [World.frozen?, h']
theorem Arr.set {w : World} {g : Nat} {t : TypeId} {cs : List Value} (h : Arr w g t cs) (j : Nat) (v : Value) : Arr (w.setCell ⟨g, j, none⟩ v) g t (cs.set j v) := by
  have hlt := h.lt
  have h' : w.heap[g] = .cells cs.toArray t (0, 0) := by
    have h2 : w.heap[g]? = some (.cells cs.toArray t (0, 0)) := h
    simpa [Array.getElem?_eq_getElem hlt] using h2
  show (w.heap.modify g _)[g]? = _
  rw [Array.getElem?_eq_getElem (by simpa using hlt), Array.getElem_modify_self, h']
  simp only [List.setIfInBounds_toArray]
  rfl
theorem Arr.other {w : World} {g : Nat} {t : TypeId} {cs : List Value} (h : Arr w g t cs) {a : Addr} (ha : g ≠ a.block) (v : Value) : Arr (w.setCell a v) g t cs := by
  unfold Arr
  rw [Below.heap_setCell _ _ _ _ ha]; exact h
theorem Arr.alloc {w : World} {g : Nat} {t : TypeId} {cs : List Value} (h : Arr w g t cs) (o : Obj) : Arr (w.alloc o) g t cs := by
  unfold Arr
  rw [Below.heap_alloc _ _ _ h.lt]; exact h
theorem Arr.grown {w w' : World} {g : Nat} {t : TypeId} {cs : List Value} {row : Option Nat} (h : Arr w g t cs) (hg : w.grownBy w' row) (hn : some g ≠ row) : Arr w' g t cs := by
  unfold Arr
  rw [hg.block g h.lt hn]; exact h
theorem arr_of_own {w : World} {B g n : Nat} {t : TypeId} {cs : List Value} (h : w.ownsRow B t 1 (.slice (some ⟨g, 0, none⟩) n n) n cs) : Arr w g t cs := by
  rcases h.2 with ⟨h0, _⟩ | ⟨g', cap, cur, hv, _, h3, _, _, h6, h7⟩
  · cases h0
  · cases hv
    unfold Arr
    rw [h3]
    have : cur.toList = cs := by rw [← h7, List.take_of_length_le (by rw [Array.length_toList]; omega)]
    rw [← this]

theorem own_form {w : World} {B : Nat} {t : TypeId} {v : Value} {n : Nat} {xs : List Value} (h : w.ownsRow B t 1 v n xs) : ∃ a c, v = .slice a n c ∧ ∀ x, v.ownBlock = some x → B ≤ x := by
  rcases h.2 with ⟨h0, h1⟩ | ⟨g', cap, cur, hv, hb, _⟩
  · subst h1; exact ⟨none, 0, h0, fun x hx => by rw [h0] at hx; cases hx⟩
  · exact ⟨_, cap, hv, fun x hx => by rw [hv] at hx; have e : some g' = some x := hx; injection e with e; omega⟩
theorem own_cell {w : World} {B : Nat} {t : TypeId} {g n cap : Nat} {xs : List Value} {s : Nat} (h : w.ownsRow B t s (.slice (some ⟨g, 0, none⟩) n cap) n xs) (j : Nat) (hj : j < n * s) : w.cell? ⟨g, j, none⟩ = xs[j]? := by
  rcases h.2 with ⟨h0, _⟩ | ⟨g', cap', cur, hv, _, h3, _, _, h6, h7⟩
  · cases h0
  · cases hv
    rw [cell_of_row w g j _ t _ h3, ← h7, List.getElem?_take, if_pos hj, Array.getElem?_toList]

def bv (l : List Bool) : List Value := l.map Value.bool
def iv (l : List Nat) : List Value := l.map fun x : Nat => Value.int .i64 (x : Int)
theorem bv_set (l : List Bool) (j : Nat) (b : Bool) : (bv l).set j (.bool b) = bv (l.set j b) := by
  unfold bv; rw [List.map_set]
theorem iv_set (l : List Nat) (j : Nat) (b : Nat) : (iv l).set j (.int .i64 (b : Int)) = iv (l.set j b) := by
  unfold iv; rw [List.map_set]
theorem iv_append (l l' : List Nat) : iv (l ++ l') = iv l ++ iv l' := by unfold iv; rw [List.map_append]
theorem bv_at (l : List Bool) (j : Nat) (h : j < l.length) : (bv l)[j]? = some (.bool (l.getD j false)) := by
  unfold bv
  rw [List.getElem?_map, List.getElem?_eq_getElem h, List.getD_eq_getElem?_getD, List.getElem?_eq_getElem h]; rfl
theorem iv_at (l : List Nat) (j : Nat) (h : j < l.length) : (iv l)[j]? = some (.int .i64 ((l.getD j 0 : Nat) : Int)) := by
  unfold iv
  rw [List.getElem?_map, List.getElem?_eq_getElem h, List.getD_eq_getElem?_getD, List.getElem?_eq_getElem h]; rfl
theorem bv_rep (n : Nat) : List.replicate n (Value.bool false) = bv (List.replicate n false) := by unfold bv; rw [List.map_replicate]
theorem iv_rep (n : Nat) : List.replicate n (Value.int .i64 0) = iv (List.replicate n 0) := by unfold iv; rw [List.map_replicate]; rfl

theorem made_bv (n : Nat) : (madeCells (Value.bool false).cells (n * 1)).toList = bv (List.replicate n false) := by
  rw [← bv_rep, Nat.mul_one]; exact toList_madeCells_one _ _
theorem made_iv (n : Nat) : (madeCells (Value.int .i64 0).cells (n * 1)).toList = iv (List.replicate n 0) := by
  rw [← iv_rep, Nat.mul_one]; exact toList_madeCells_one _ _

theorem arr_made_b {w : World} {B g n : Nat} (h : w.ownsRow B 4 1 (.slice (some ⟨g, 0, none⟩) n n) n (madeCells (Value.bool false).cells (n * 1)).toList) : Arr w g 4 (bv (List.replicate n false)) := by
  rw [← made_bv]; exact arr_of_own h
theorem arr_made_i {w : World} {B g n : Nat} (h : w.ownsRow B 3 1 (.slice (some ⟨g, 0, none⟩) n n) n (madeCells (Value.int .i64 0).cells (n * 1)).toList) : Arr w g 3 (iv (List.replicate n 0)) := by
  rw [← made_iv]; exact arr_of_own h

/-! ### the graph in memory -/
def ints (l : List Nat) : List Int := l.map fun x : Nat => (x : Int)
def NMat (w : World) (a : Option Addr) (n : Nat) (S : List (List Nat)) : Prop := Mat w a n (S.map ints)
theorem ints_getD (l : List Nat) (j : Nat) : (ints l).getD j 0 = ((l.getD j 0 : Nat) : Int) := by
  unfold ints
  rw [List.getD_eq_getElem?_getD, List.getD_eq_getElem?_getD, List.getElem?_map]
  cases l[j]? <;> rfl
theorem mat_getD (S : List (List Nat)) (u : Nat) : (S.map ints).getD u [] = ints (scs S u) := by
  unfold scs
  rw [List.getD_eq_getElem?_getD, List.getD_eq_getElem?_getD, List.getElem?_map]
  cases S[u]? <;> rfl
/-- A node's row. -/
theorem NMat.at {w : World} {a : Option Addr} {n : Nat} {S : List (List Nat)} (h : NMat w a n S) (u : Nat) (hu : u < n) :
    ∃ b off, a = some ⟨b, off, none⟩ ∧ b < w.heap.size ∧ ∃ a' c', w.cell? ⟨b, off + u, none⟩ = some (.slice a' (scs S u).length c') ∧ (scs S u).length ≤ 9223372036854775807 ∧
      ∀ k, k < (scs S u).length → ∃ b' off', a' = some ⟨b', off', none⟩ ∧ b' < w.heap.size ∧ w.cell? ⟨b', off' + k, none⟩ = some (.int .i64 (((scs S u).getD k 0 : Nat) : Int)) := by
  obtain ⟨b, off, e, hb, a', l', c', h1, h2, h3⟩ := Mat.at h u hu
  rw [mat_getD] at h3
  have hl : l' = (scs S u).length := by rw [← h3.1]; simp [ints]
  subst hl
  refine ⟨b, off, e, hb, a', c', h1, h2, fun k hk => ?_⟩
  obtain ⟨b', off', e', hb', hc⟩ := h3.at k hk
  rw [ints_getD] at hc
  exact ⟨b', off', e', hb', hc⟩
theorem NMat.keep {w w' : World} {a : Option Addr} {n : Nat} {S : List (List Nat)} (h : NMat w a n S) (hb : Below w.heap.size w w') : NMat w' a n S := Mat.keep h hb

theorem info3 : (Try.prog.info? 3).map (fun i => (i.zero, i.size, i.bytes)) = some (some (.int .i64 0), 1, 8) := by kernel_rfl
theorem info4 : (Try.prog.info? 4).map (fun i => (i.zero, i.size, i.bytes)) = some (some (.bool false), 1, 1) := by kernel_rfl
theorem iv_length (l : List Nat) : (iv l).length = l.length := by simp [iv]
theorem getD_of {α : Type} {l : List α} {k : Nat} (h : k < l.length) (d : α) : l[k]? = some (l.getD k d) := by
  rw [List.getD_eq_getElem?_getD, List.getElem?_eq_getElem h]; rfl

theorem cell_one_at {w : World} {H : Nat} (hH : w.heap.size = H) (v : Value) (t : TypeId) : ∀ j u, [v][j]? = some u → (w.alloc (.cells #[v] t)).cell? ((⟨H, 0, none⟩ : Addr).add j) = some u := by
  subst hH; exact cell_one_new _ _ _

/-- What the search's loops keep: 'seen' in the block g, the stack behind it. -/
structure DS (S : List (List Nat)) (n : Nat) (w wr : World) (sv : Value) (L : Nat) (seen : List Bool) (st : List Nat) : Prop where
  bel : Below w.heap.size w wr
  arr : Arr wr w.heap.size 4 (bv seen)
  own : wr.ownsRow (w.heap.size + 1) 3 1 sv L (iv st)
  len : st.length = L


theorem ds_push {S : List (List Nat)} {n : Nat} {w wr w2 : World} {sv sv2 : Value} {L x : Nat} {seen : List Bool} {st : List Nat} (hb : Below w.heap.size w wr) (ha : Arr wr w.heap.size 4 (bv seen)) (hl : st.length = L) (hob : ∀ x, sv.ownBlock = some x → w.heap.size + 1 ≤ x)
    (ho : w2.ownsRow (w.heap.size + 1) 3 1 sv2 (L + 1) (iv st ++ [.int .i64 (x : Int)])) (hg : ((wr.setCell ⟨w.heap.size, x, none⟩ (.bool true)).alloc (.cells #[.int .i64 (x : Int)] 3)).grownBy w2 sv.ownBlock) :
    DS S n w w2 sv2 (L + 1) (seen.set x true) (st ++ [x]) := by
  have hsz := ha.lt
  refine ⟨?_, ?_, ?_, by simp [hl]⟩
  · refine Below.grown ((hb.setCell (p := ⟨w.heap.size, x, none⟩) (Nat.le_refl _) _).alloc ?_ _) hg ?_ (fun k hk => by have := hob k hk; omega)
    · simp; omega
    · simp; omega
  · rw [← bv_set]
    exact ((ha.set x (.bool true)).alloc _).grown hg (fun e => by have := hob _ e.symm; omega)
  · rw [iv_append]; exact ho

set_option maxHeartbeats 4000000 in
theorem cyc_any (a : Option Addr) (n c v : Nat) (S : List (List Nat)) (w : World) (hr : NMat w a n S) (hv : v < n) (hn : n ≤ 4096) (hS : ∀ u x, Tj.Edge S u x → x < n) :
    Calls Try.prog 29 #[.slice a n c, .int .i64 (v : Int)] w fun e w' => (∃ B : Bool, e = .returned (.bool B) ∧ (B = true ↔ Cyc S v)) ∧ Below w.heap.size w w' := by
  obtain ⟨i4, hi4, hz40, hz41, hz42⟩ := info_parts info4
  obtain ⟨i3, hi3, hz30, hz31, hz32⟩ := info_parts info3
  have HS : Hid (∀ u x, Tj.Edge S u x → x < n) := hS
  have HM : Hid (NMat w a n S) := hr
  obtain ⟨b, off, rfl, hb, a', c', hcell, hlen, hrow⟩ := hr.at v hv
  have HR : Hid _ := hrow
  have HC : Hid (w.cell? ⟨b, off + v, none⟩ = some (.slice a' (scs S v).length c')) := hcell
  clear hr hS hrow hcell
  have hv' : (v : Int) < (n : Int) := by omega
  generalize hlv : (scs S v).length = lv at *
  have HLV : Hid ((scs S v).length = lv) := hlv
  clear hlv
  go_enter Try.func29, Try.ntmps29
  go_wp2_with (at_make; refine wpList_make_full _ rfl _ _ 29 rfl w.heap.size 4 i4 (.bool false) 1 Try.underlying29 hi4 hz40 hz41 _ _ _ _ n rfl rfl rfl rfl (by rw [hz42]; omega) (by unfold maxLen; omega) (by omega) ?_; intro w1 hown1 hgrow1; have hbel : Hid (Below w.heap.size w w1) := (Below.refl _ _).grown hgrow1 (Nat.le_refl _) (fun k hk => by cases hk); have hcell := (hbel.out.cell (p := ⟨b, off + v, none⟩) hb).trans HC.out; have HA : Hid (Arr w1 w.heap.size 4 (bv (List.replicate n false))) := arr_made_b hown1; clear hown1 hgrow1)
  have hs0 : DS S n w w1 (.slice none 0 0) 0 (List.replicate n false) [] := ⟨hbel.out, HA.out, ⟨rfl, .inl ⟨rfl, rfl⟩⟩, rfl⟩
  clear hbel HA hcell
  go_loopw [6, 20] (fun sv i wr => ∃ (k L : Nat) (seen : List Bool) (st : List Nat), k ≤ lv ∧ i = .int .i64 k ∧ DS S n w wr sv L seen st ∧ Hid (DI S n v k 0 (scs S 0).length seen st)) (fun _ i _ => lv - (intOf i).toNat)
  case atStart => exact ⟨0, 0, _, _, Nat.zero_le _, rfl, hs0, di_start v _ _ HS.out⟩
  case round =>
    clear hs0
    obtain ⟨k, L, seen, st, hk, rfl, hds, HD⟩ := hrel
    obtain ⟨hbel, harr, hown, hL⟩ := hds
    obtain ⟨sa, sc, rfl, hob⟩ := own_form hown
    have hLn : L ≤ n := by have := HD.out.cnt; omega
    by_cases hlt : k < lv
    · obtain ⟨b', off', rfl, hb', hc0⟩ := HR.out k hlt
      have hc1 := (hbel.cell (p := ⟨b', off' + k, none⟩) hb').trans hc0
      have hlt' : (k : Int) < (lv : Int) := by omega
      have EW : Hid ((scs S v)[k]? = some ((scs S v).getD k 0)) := getD_of (by rw [HLV.out]; exact hlt) 0
      clear hc0
      generalize (scs S v).getD k 0 = x at *
      have hxn : x < n := HS.out v x (List.mem_of_getElem? EW.out)
      have hxn' : (x : Int) < (n : Int) := by omega
      have hsc := harr.cell x
      rw [bv_at seen x (by rw [HD.out.ls]; exact hxn)] at hsc
      by_cases hxv : x = v
      · have hq : ((x : Int) != (v : Int)) = false := by simp [hxv]
        have HD' : Hid (DI S n v (k + 1) 0 (scs S 0).length seen st) := di_j HD.out EW.out (fun h => absurd hxv h)
        have hds : DS S n w wr (.slice sa L sc) L seen st := ⟨hbel, harr, hown, hL⟩
        clear hxv hbel harr hown
        go_wp2
        go_roundw
        case rel => exact ⟨k + 1, L, seen, st, by omega, by go_num, hds, HD'⟩
        case measure => simp [intOf]; omega
      · have hq : ((x : Int) != (v : Int)) = true := by simp; omega
        cases hse : seen.getD x false with
        | true =>
          rw [hse] at hsc
          have HD' : Hid (DI S n v (k + 1) 0 (scs S 0).length seen st) := di_j HD.out EW.out (fun _ => hse)
          have hds : DS S n w wr (.slice sa L sc) L seen st := ⟨hbel, harr, hown, hL⟩
          clear hxv hbel harr hown
          go_wp2
          go_roundw
          case rel => exact ⟨k + 1, L, seen, st, by omega, by go_num, hds, HD'⟩
          case measure => simp [intOf]; omega
        | false =>
          rw [hse] at hsc
          have hfr := harr.free x
          have HD' : Hid (DI S n v (k + 1) 0 (scs S 0).length (seen.set x true) (st ++ [x])) := di_j (di_push HD.out hxn hse ⟨x, hxv, List.mem_of_getElem? EW.out, Reach.refl _⟩) EW.out (fun _ => by unfold sn; exact getD_set_same _ _ _ _ (by rw [HD.out.ls]; exact hxn))
          have HB : Hid (Below w.heap.size w wr) := hbel
          have HAr : Hid (Arr wr w.heap.size 4 (bv seen)) := harr
          have hsz : w.heap.size < wr.heap.size := harr.lt
          clear hxv hbel harr hse
          go_wp2_with (at_builtin; refine wpList_append_lies _ rfl _ _ 23 rfl (w.heap.size + 1) 3 i3 (.int .i64 0) 1 8 Try.underlying23 hi3 hz30 hz31 hz32 rfl (by decide) _ L _ rfl ((ownsRow_setCell_below hown (Nat.lt_succ_self _) _).alloc _) ⟨wr.heap.size, 0, none⟩ 1 1 [.int .i64 (x : Int)] rfl rfl (cell_one_at (by simp) _ _) (by simp [Value.oneCell']) (by omega) (by unfold maxLen; omega) (by omega) (by simp; omega) (wr.heap.size + 1) (by simp) ?_; intro g1 cap1 w2 hown2 hgrow hat hlt1)
          have hds : DS S n w w2 (.slice (some ⟨g1, 0, none⟩) (L + 1) cap1) (L + 1) (seen.set x true) (st ++ [x]) := ds_push HB.out HAr.out hL hob hown2 hgrow
          clear hown2 hgrow hat hob hown
          go_wp2
          go_roundw
          case rel => exact ⟨k + 1, L + 1, _, _, by omega, by go_num, hds, HD'⟩
          case measure => simp [intOf]; omega
    · have hlt' : ¬ (k : Int) < (lv : Int) := by omega
      have hds : DS S n w wr (.slice sa L sc) L seen st := ⟨hbel, harr, hown, hL⟩
      have HD' : Hid (DI S n v (scs S v).length 0 (scs S 0).length seen st) := by
        have e : k = (scs S v).length := by rw [HLV.out]; omega
        have := HD.out
        rw [e] at this
        exact this
      clear hbel harr hown HD hk hlt
      go_wp2_with fail
      go_loopg [6] (L + 2 * seen.count false) (fun gh sv wr => ∃ (L : Nat) (seen : List Bool) (st : List Nat) (a0 : Nat), DS S n w wr sv L seen st ∧ Hid (DI S n v (scs S v).length a0 (scs S a0).length seen st) ∧ Hid (gh = L + 2 * seen.count false))
      case atStart => exact ⟨L, seen, st, 0, hds, HD', rfl⟩
      case round =>
        clear hds HD' hL hLn hob HR HC hb
        obtain ⟨L1, seen1, st1, a0, hds, HD, HG⟩ := hrel
        obtain ⟨hbel, harr, hown, hL⟩ := hds
        have hLn : L1 ≤ n := by have := HD.out.cnt; omega
        by_cases h0 : L1 = 0
        · subst h0
          have e : st1 = [] := List.eq_nil_of_length_eq_zero hL
          obtain ⟨sa, sc, rfl, hob⟩ := own_form hown
          have HF : Hid (¬ Cyc S v) := di_false (by have := HD.out; rw [e] at this; exact this)
          clear harr hown hob e
          go_wp2_with fail
          go_ret
          exact ⟨⟨false, rfl, (fun h => by cases h), fun h => absurd h HF.out⟩, hbel⟩
        · obtain ⟨L', rfl⟩ : ∃ L', L1 = L' + 1 := ⟨L1 - 1, by omega⟩
          obtain ⟨st', u, rfl⟩ : ∃ st' u, st1 = st' ++ [u] := by
            have hne : st1 ≠ [] := fun e => by rw [e] at hL; simp at hL
            exact ⟨st1.dropLast, st1.getLast hne, (List.dropLast_concat_getLast hne).symm⟩
          have hL' : st'.length = L' := by simpa using hL
          obtain ⟨g, cap, rfl, hg1, hg2⟩ := hown.form (by omega)
          have hcap : L' + 1 ≤ cap := by
            rcases hown.2 with ⟨h, _⟩ | ⟨_, _, _, h, _, _, h4, _⟩
            · cases h
            · cases h; exact h4
          have hcu : wr.cell? ⟨g, L', none⟩ = some (.int .i64 (u : Int)) := by
            rw [own_cell hown L' (by omega), iv_append, List.getElem?_append_right (by rw [iv_length]; omega), iv_length, hL']
            simp [iv]
          have hown' : wr.ownsRow (w.heap.size + 1) 3 1 (.slice (some ⟨g, 0, none⟩) L' cap) L' (iv st') := ownsRow_pop (by rw [iv_length, hL']; omega) (by rw [iv_append] at hown; exact hown)
          clear hown hL h0
          have hcap' : (L' : Int) ≤ (cap : Int) := by omega
          have hLL : (L' : Int) < (L' : Int) + 1 := by omega
          have h01 : (0 : Int) < (L' : Int) + 1 := by omega
          by_cases huv : u = v
          · have hq : ((u : Int) == (v : Int)) = true := by simp [huv]
            have HF : Hid (Cyc S v) := di_true (by have := HD.out; rw [huv] at this; exact this)
            clear huv harr hown'
            go_wp2_with fail
            go_ret
            exact ⟨⟨true, rfl, fun _ => HF.out, fun _ => rfl⟩, hbel⟩
          · have hq : ((u : Int) == (v : Int)) = false := by simp; omega
            have hsu : sn seen1 u = true := HD.out.sS u (by simp)
            have hun : u < n := by
              by_cases hc : u < n
              · exact hc
              · unfold sn at hsu
                rw [List.getD_eq_getElem?_getD, List.getElem?_eq_none (by rw [HD.out.ls]; omega)] at hsu
                simp at hsu
            have hun' : (u : Int) < (n : Int) := by omega
            obtain ⟨bx, offx, hea, hbx, au, cu, hcellu, hlenu, hrowu⟩ := HM.out.at u hun
            injection hea with hea
            injection hea with hea1 hea2
            subst hea1 hea2
            have hcellu' := (hbel.cell (p := ⟨b, off + u, none⟩) hbx).trans hcellu
            have HRU : Hid _ := hrowu
            generalize hlu : (scs S u).length = lu at *
            have HLU : Hid ((scs S u).length = lu) := hlu
            have HD0 : Hid (DI S n v (scs S v).length u 0 seen1 st') := di_pop HD.out huv
            have HG' : Hid (L' + 2 * seen1.count false < gk) := by have := HG.out; show _ < _; omega
            have HSU : Hid (sn seen1 u = true) := hsu
            have hds : DS S n w wr (.slice (some ⟨g, 0, none⟩) L' cap) L' seen1 st' := ⟨hbel, harr, hown', hL'⟩
            clear huv hcellu hrowu hlu HD HG hsu hbel harr hown' hL'
            go_wp2_with fail
            go_loopw [6, 64] (fun sv i wr => ∃ (k L : Nat) (seen : List Bool) (st : List Nat), k ≤ lu ∧ i = .int .i64 k ∧ DS S n w wr sv L seen st ∧ Hid (DI S n v (scs S v).length u k seen st) ∧ Hid (L + 2 * seen.count false < gk) ∧ Hid (sn seen u = true)) (fun _ i _ => lu - (intOf i).toNat)
            case atStart => exact ⟨0, L', seen1, st', Nat.zero_le _, rfl, hds, HD0, HG', HSU⟩
            case round =>
              clear hds HD0 HG' HSU hg1 hg2 hcap hcu hcap' hLL h01 hq hcellu'
              obtain ⟨k, L, seen, st, hk, rfl, hds, HD, HG, HSU⟩ := hrel
              obtain ⟨hbel, harr, hown, hL⟩ := hds
              obtain ⟨sa, sc, rfl, hob⟩ := own_form hown
              have hLn : L ≤ n := by have := HD.out.cnt; omega
              by_cases hlt : k < lu
              · obtain ⟨b', off', rfl, hb', hc0⟩ := HRU.out k hlt
                have hc1 := (hbel.cell (p := ⟨b', off' + k, none⟩) hb').trans hc0
                have hlt' : (k : Int) < (lu : Int) := by omega
                have EW : Hid ((scs S u)[k]? = some ((scs S u).getD k 0)) := getD_of (by rw [HLU.out]; exact hlt) 0
                clear hc0
                generalize (scs S u).getD k 0 = x at *
                have hxn : x < n := HS.out u x (List.mem_of_getElem? EW.out)
                have hxn' : (x : Int) < (n : Int) := by omega
                have hsc := harr.cell x
                rw [bv_at seen x (by rw [HD.out.ls]; exact hxn)] at hsc
                cases hse : seen.getD x false with
                | true =>
                  rw [hse] at hsc
                  have HD' : Hid (DI S n v (scs S v).length u (k + 1) seen st) := di_k HD.out EW.out hse
                  have hds : DS S n w wr (.slice sa L sc) L seen st := ⟨hbel, harr, hown, hL⟩
                  clear hbel harr hown
                  go_wp2
                  go_roundw
                  case rel => exact ⟨k + 1, L, seen, st, by omega, by go_num, hds, HD', HG, HSU⟩
                  case measure => simp [intOf]; omega
                | false =>
                  rw [hse] at hsc
                  have hfr := harr.free x
                  have hxl : x < seen.length := by rw [HD.out.ls]; exact hxn
                  have HD' : Hid (DI S n v (scs S v).length u (k + 1) (seen.set x true) (st ++ [x])) := di_k (di_push HD.out hxn hse (di_src HD.out HSU.out (List.mem_of_getElem? EW.out))) EW.out (by unfold sn; exact getD_set_same _ _ _ _ hxl)
                  have HG' : Hid (L + 1 + 2 * (seen.set x true).count false < gk) := by
                    have h1 := countF_set seen x hxl hse
                    have h2 := HG.out
                    show _ < _
                    omega
                  have HSU' : Hid (sn (seen.set x true) u = true) := by
                    show _ = _
                    have h1 := HSU.out
                    unfold sn at h1 ⊢
                    by_cases e : x = u
                    · rw [e]; exact getD_set_same _ _ _ _ (by rw [← e]; exact hxl)
                    · rw [Tj.getD_set_ne _ _ _ _ _ e]; exact h1
                  have HB : Hid (Below w.heap.size w wr) := hbel
                  have HAr : Hid (Arr wr w.heap.size 4 (bv seen)) := harr
                  have hsz : w.heap.size < wr.heap.size := harr.lt
                  clear hbel harr hse hxl
                  go_wp2_with (at_builtin; refine wpList_append_lies _ rfl _ _ 23 rfl (w.heap.size + 1) 3 i3 (.int .i64 0) 1 8 Try.underlying23 hi3 hz30 hz31 hz32 rfl (by decide) _ L _ rfl ((ownsRow_setCell_below hown (Nat.lt_succ_self _) _).alloc _) ⟨wr.heap.size, 0, none⟩ 1 1 [.int .i64 (x : Int)] rfl rfl (cell_one_at (by simp) _ _) (by simp [Value.oneCell']) (by omega) (by unfold maxLen; omega) (by omega) (by simp; omega) (wr.heap.size + 1) (by simp) ?_; intro g1 cap1 w2 hown2 hgrow hat hlt1)
                  have hds : DS S n w w2 (.slice (some ⟨g1, 0, none⟩) (L + 1) cap1) (L + 1) (seen.set x true) (st ++ [x]) := ds_push HB.out HAr.out hL hob hown2 hgrow
                  clear hown2 hgrow hat hob hown
                  go_wp2
                  go_roundw
                  case rel => exact ⟨k + 1, L + 1, _, _, by omega, by go_num, hds, HD', HG', HSU'⟩
                  case measure => simp [intOf]; omega
              · have hlt' : ¬ (k : Int) < (lu : Int) := by omega
                have hds : DS S n w wr (.slice sa L sc) L seen st := ⟨hbel, harr, hown, hL⟩
                have HD' : Hid (DI S n v (scs S v).length u (scs S u).length seen st) := by
                  have e : k = (scs S u).length := by rw [HLU.out]; omega
                  have := HD.out
                  rw [e] at this
                  exact this
                clear hbel harr hown HD hk hlt hob
                go_wp2_with fail
                go_roundg (L + 2 * seen.count false)
                case measure => exact HG.out
                case rel => exact ⟨L, seen, st, u, hds, HD', rfl⟩

end Go.Proofs.Qxb6601646a.Tw
