import Derived.Test.Qxb6601646aNwUnion
import Derived.Test.Qxb6601646aNwCopy
namespace Go.Proofs.Qxb6601646a.Nw
open Go.RowKit Go.Proofs.Qxb6601646a.Tw Go.Proofs.Qxb6601646a.Np

/-- A row apart from the two blocks that nearSet writes. -/
def RowN (w : World) (vb sb : Nat) (a : Option Addr) (n : Nat) (l : List Int) : Prop :=
  l.length = n ∧ (n = 0 ∨ ∃ b off, a = some ⟨b, off, none⟩ ∧ b < w.heap.size ∧ b ≠ vb ∧ b ≠ sb ∧ ∀ j, j < n → w.cell? ⟨b, off + j, none⟩ = some (.int .i64 (l.getD j 0)))
theorem RowN.row {w : World} {vb sb : Nat} {a : Option Addr} {n : Nat} {l : List Int} (h : RowN w vb sb a n l) : Row w a n l := by
  refine ⟨h.1, ?_⟩
  rcases h.2 with h | ⟨b, off, h1, h2, _, _, h3⟩
  · exact .inl h
  · exact .inr ⟨b, off, h1, h2, h3⟩
structure Kept (vb sb : Nat) (w w' : World) : Prop where
  os : w'.os = w.os
  tape : w'.tape = w.tape
  output : w'.output = w.output
  size : w.heap.size ≤ w'.heap.size
  block : ∀ k, k < w.heap.size → k ≠ vb → k ≠ sb → w'.heap[k]? = w.heap[k]?
theorem Kept.refl (vb sb : Nat) (w : World) : Kept vb sb w w := ⟨rfl, rfl, rfl, Nat.le_refl _, fun _ _ _ _ => rfl⟩
theorem Kept.trans {vb sb : Nat} {w w1 w2 : World} (h : Kept vb sb w w1) (h' : Kept vb sb w1 w2) : Kept vb sb w w2 :=
  ⟨h'.os.trans h.os, h'.tape.trans h.tape, h'.output.trans h.output, Nat.le_trans h.size h'.size, fun k hk h1 h2 => (h'.block k (Nat.lt_of_lt_of_le hk h.size) h1 h2).trans (h.block k hk h1 h2)⟩
theorem kept_of_below {vb sb : Nat} {w w' : World} (h : Below w.heap.size w w') : Kept vb sb w w' := ⟨h.os, h.tape, h.output, h.size, fun k hk _ _ => h.block k hk⟩
theorem RowN.keep {w w' : World} {vb sb : Nat} {a : Option Addr} {n : Nat} {l : List Int} (h : RowN w vb sb a n l) (hk : Kept vb sb w w') : RowN w' vb sb a n l := by
  refine ⟨h.1, ?_⟩
  rcases h.2 with h | ⟨b, off, h1, h2, h3, h4, h5⟩
  · exact .inl h
  · exact .inr ⟨b, off, h1, Nat.lt_of_lt_of_le h2 hk.size, h3, h4, fun j hj => (World.cell?_of_block (w := w) (hk.block b h2 h3 h4)).trans (h5 j hj)⟩
theorem kept_set {vb sb : Nat} {w w' : World} (h : Kept vb sb w w') {b : Nat} (hb : b = vb ∨ b = sb) (j : Nat) (v : Value) : Kept vb sb w (w'.setCell ⟨b, j, none⟩ v) := by
  refine ⟨h.os, h.tape, h.output, by simp; exact h.size, fun k hk h1 h2 => ?_⟩
  rw [Below.heap_setCell _ _ _ _ (by show k ≠ b; rcases hb with rfl | rfl; exact h1; exact h2)]
  exact h.block k hk h1 h2
/-- A set as a slice. -/
def SetSlot (w : World) (vb sb : Nat) (val : Value) (P : Nat → Prop) : Prop := ∃ a n c s, val = .slice a n c ∧ n ≤ 65536 ∧ RowN w vb sb a n (ints s) ∧ SetOf P s
theorem SetSlot.keep {w w' : World} {vb sb : Nat} {val : Value} {P : Nat → Prop} (h : SetSlot w vb sb val P) (hk : Kept vb sb w w') : SetSlot w' vb sb val P := by
  obtain ⟨a, n, c, s, h1, h2, h3, h4⟩ := h
  exact ⟨a, n, c, s, h1, h2, h3.keep hk, h4⟩
structure NS (vb sb size : Nat) (W nd0 : List Int) (q : Nat) (w w' : World) (vis vis' : List Bool) (sl sl' : List Value) : Prop where
  kept : Kept vb sb w w'
  av : Arr w' vb 4 (bv vis')
  asl : Arr w' sb 23 sl'
  lv : vis'.length = vis.length
  ls : sl'.length = sl.length
  vin : ∀ x, Vis size nd0 q x → vis'[x]? = some true
  vout : ∀ x, ¬ Vis size nd0 q x → vis'[x]? = vis[x]?
  sin : ∀ x, Vis size nd0 q x → ∃ val, sl'[x]? = some val ∧ SetSlot w' vb sb val (In size W nd0 x)
  sout : ∀ x, ¬ Vis size nd0 q x → sl'[x]? = sl[x]?
def NRes (vb sb size : Nat) (W nd0 : List Int) (q : Nat) (w : World) (vis : List Bool) (sl : List Value) (e : Ending) (w' : World) : Prop :=
  ∃ val vis' sl', e = .returned val ∧ Hid (SetSlot w' vb sb val (In size W nd0 q)) ∧ Hid (NS vb sb size W nd0 q w w' vis vis' sl sl')
theorem ns_none {vb sb size q : Nat} {W nd0 : List Int} {w w' : World} {vis : List Bool} {sl : List Value} (hn : ∀ x, ¬ Vis size nd0 q x) (hk : Kept vb sb w w') (av : Arr w' vb 4 (bv vis)) (asl : Arr w' sb 23 sl) : NS vb sb size W nd0 q w w' vis vis sl sl :=
  ⟨hk, av, asl, rfl, rfl, fun x hx => absurd hx (hn x), fun _ _ => rfl, fun x hx => absurd hx (hn x), fun _ _ => rfl⟩
theorem inN_lt {n0 size : Nat} {W nd : List Int} (h : Inp n0 size W nd) : ∀ (m q y : Nat), 1 ≤ q → InN size W nd m q y → y < n0
  | 0, q, y, hq, hy => by
    rcases hy with ⟨_, hy⟩ | ⟨hq2, hy⟩
    · have := (h.w _ _ hy).2; omega
    · have := h.n q _ hq hq2 hy; omega
  | m + 1, q, y, hq, hy => by
    rcases hy.2.2 with hy | hy
    · exact inN_lt h m (2 * q) y (by omega) hy
    · exact inN_lt h m (2 * q + 1) y (by omega) hy
theorem in_lt {n0 size : Nat} {W nd : List Int} (h : Inp n0 size W nd) {q y : Nat} (hq : 1 ≤ q) (hy : In size W nd q y) : y < n0 := by
  obtain ⟨m, hm⟩ := hy
  exact inN_lt h m q y hq hm
/-- One node alone, in a block of its own. -/
theorem slot_one {w : World} {vb sb x : Nat} {P : Nat → Prop} (hvb : vb < w.heap.size) (hsb : sb < w.heap.size) (hP : ∀ y, P y ↔ y = x) : SetSlot (w.alloc (.cells #[.int .i64 (x : Int)] 3)) vb sb (.slice (some ⟨w.heap.size, 0, none⟩) 1 1) P := by
  refine ⟨_, 1, 1, [x], rfl, by omega, ⟨rfl, .inr ⟨w.heap.size, 0, rfl, by simp, by omega, by omega, fun j hj => ?_⟩⟩, ⟨List.pairwise_singleton _ _, fun y => by rw [List.mem_singleton, hP]⟩⟩
  have : j = 0 := by omega
  subst this
  have ha : Arr (w.alloc (.cells #[.int .i64 (x : Int)] 3)) w.heap.size 3 [.int .i64 (x : Int)] := heap_alloc_new w _
  exact ha.cell 0
theorem slot_nil {w : World} {vb sb : Nat} {P : Nat → Prop} (hP : ∀ y, ¬ P y) : SetSlot w vb sb (.slice none 0 0) P :=
  ⟨none, 0, 0, [], rfl, by omega, ⟨rfl, .inl rfl⟩, ⟨List.Pairwise.nil, fun y => ⟨fun h => by simp at h, fun h => absurd h (hP y)⟩⟩⟩
theorem kept_alloc {vb sb : Nat} (w : World) (o : Obj) : Kept vb sb w (w.alloc o) :=
  ⟨rfl, rfl, rfl, by simp, fun k hk _ _ => Below.heap_alloc _ _ _ hk⟩
/-- The union's row as a set. -/
theorem slot_union {w w' : World} {vb sb n0 : Nat} {ov : Value} {o A B : List Nat} {P Q R : Nat → Prop} (hn0 : n0 ≤ 65536) (hA : SetOf P A) (hB : SetOf Q B) (hR : ∀ y, R y ↔ P y ∨ Q y) (hlt : ∀ y, R y → y < n0) (ho : Asc o) (hm : ∀ y, y ∈ o ↔ y ∈ A ∨ y ∈ B) (hown : w'.ownsRow w.heap.size 3 1 ov o.length (iv o)) (hvb : vb < w.heap.size) (hsb : sb < w.heap.size) : SetSlot w' vb sb ov R := by
  obtain ⟨a, c, hv⟩ := own_val hown
  have hset : SetOf R o := ⟨ho, fun y => by rw [hm y, hA.2 y, hB.2 y, hR y]⟩
  have hlen : o.length ≤ 65536 := by
    have := asc_len o 0 n0 ho (fun y hy => ⟨Nat.zero_le _, hlt y ((hset.2 y).1 hy)⟩)
    omega
  refine ⟨a, o.length, c, o, hv, hlen, ?_, hset⟩
  have hrow := row_own hown hv rfl
  refine ⟨hrow.1, ?_⟩
  by_cases h0 : o.length = 0
  · exact .inl h0
  · rcases hrow.2 with h | ⟨b, off, h1, h2, h3⟩
    · exact absurd h h0
    · have hb := own_base hown b (by rw [hv, h1]; rfl)
      exact .inr ⟨b, off, h1, h2, by omega, by omega, h3⟩
/-- Both sides done, the union made, the two stores done. -/
theorem ns_made {vb sb size q : Nat} {W nd0 : List Int} {w w1 w2 w3 : World} {vis vis1 vis2 : List Bool} {sl sl1 sl2 : List Value} {ov : Value} (hne : vb ≠ sb) (hq : q < size) (h0 : nd0[q]? = some (-2)) (hq1 : 1 ≤ q) (hlv : vis.length = size) (hls : sl.length = size) (h1 : NS vb sb size W nd0 (2 * q) w w1 vis vis1 sl sl1) (h2 : NS vb sb size W nd0 (2 * q + 1) w1 w2 vis1 vis2 sl1 sl2) (hb : Below w2.heap.size w2 w3) (ho : SetSlot w3 vb sb ov (In size W nd0 q)) :
    NS vb sb size W nd0 q w ((w3.setCell ⟨vb, q, none⟩ (.bool true)).setCell ⟨sb, q, none⟩ ov) vis (vis2.set q true) sl (sl2.set q ov) ∧ SetSlot ((w3.setCell ⟨vb, q, none⟩ (.bool true)).setCell ⟨sb, q, none⟩ ov) vb sb ov (In size W nd0 q) := by
  have a3 : Arr w3 vb 4 (bv vis2) := by unfold Arr; rw [hb.block vb h2.av.lt]; exact h2.av
  have b3 : Arr w3 sb 23 sl2 := by unfold Arr; rw [hb.block sb h2.asl.lt]; exact h2.asl
  have k3 : Kept vb sb w3 ((w3.setCell ⟨vb, q, none⟩ (.bool true)).setCell ⟨sb, q, none⟩ ov) := kept_set (kept_set (Kept.refl vb sb w3) (.inl rfl) _ _) (.inr rfl) _ _
  have k23 : Kept vb sb w2 _ := (kept_of_below hb).trans k3
  have k13 : Kept vb sb w1 _ := h2.kept.trans k23
  have hlv2 : vis2.length = size := by rw [h2.lv, h1.lv, hlv]
  have hls2 : sl2.length = size := by rw [h2.ls, h1.ls, hls]
  have hnl : ¬ Vis size nd0 (2 * q) q := fun hv => by have := sub_ge hv.sub; omega
  have hnr : ¬ Vis size nd0 (2 * q + 1) q := fun hv => by have := sub_ge hv.sub; omega
  refine ⟨⟨h1.kept.trans k13, (by rw [← bv_set]; exact (a3.set q _).other (show vb ≠ sb from hne) _), ((b3.other (show sb ≠ vb from fun e => hne e.symm) _).set q _), by rw [List.length_set, h2.lv, h1.lv], by rw [List.length_set, h2.ls, h1.ls], fun x hx => ?_, fun x hx => ?_, fun x hx => ?_, fun x hx => ?_⟩, ho.keep k3⟩
  · rcases (vis_made hq h0).1 hx with rfl | hx | hx
    · rw [List.getElem?_set_self (by omega)]
    · rw [List.getElem?_set_ne (fun e => by subst e; exact hnl hx), h2.vout x (fun hv => Sub.apart hq1 hx.sub hv.sub)]; exact h1.vin x hx
    · rw [List.getElem?_set_ne (fun e => by subst e; exact hnr hx)]; exact h2.vin x hx
  · rw [vis_made hq h0] at hx
    rw [List.getElem?_set_ne (fun e => hx (.inl e.symm)), h2.vout x (fun e => hx (.inr (.inr e))), h1.vout x (fun e => hx (.inr (.inl e)))]
  · rcases (vis_made hq h0).1 hx with rfl | hx | hx
    · exact ⟨ov, by rw [List.getElem?_set_self (by omega)], ho.keep k3⟩
    · obtain ⟨val, e1, e2⟩ := h1.sin x hx
      exact ⟨val, by rw [List.getElem?_set_ne (fun e => by subst e; exact hnl hx), h2.sout x (fun hv => Sub.apart hq1 hx.sub hv.sub)]; exact e1, e2.keep k13⟩
    · obtain ⟨val, e1, e2⟩ := h2.sin x hx
      exact ⟨val, by rw [List.getElem?_set_ne (fun e => by subst e; exact hnr hx)]; exact e1, e2.keep k23⟩
  · rw [vis_made hq h0] at hx
    rw [List.getElem?_set_ne (fun e => hx (.inl e.symm)), h2.sout x (fun e => hx (.inr (.inr e))), h1.sout x (fun e => hx (.inr (.inl e)))]

set_option maxHeartbeats 2000000 in
set_option maxRecDepth 100000 in
theorem set_any {vb sb n0 size wn wc nn nc : Nat} {W nd0 : List Int} {wa na : Option Addr} (hinp : Inp n0 size W nd0) (hn0 : n0 ≤ 65536) (hsz : size ≤ 65536) (hwn : wn ≤ 65536) (hnn : nn ≤ 131072) (hne : vb ≠ sb) : ∀ (fuel q : Nat) (w : World) (vis : List Bool) (sl : List Value), size - q < fuel → 1 ≤ q → q ≤ 9223372036854775807 → RowN w vb sb wa wn W → RowN w vb sb na nn nd0 → Arr w vb 4 (bv vis) → Arr w sb 23 sl → vis.length = size → sl.length = size →
    Calls Try.prog 13 #[.int .i64 (q : Int), .int .i64 (size : Int), .slice wa wn wc, .slice na nn nc, .slice (some ⟨vb, 0, none⟩) size size, .slice (some ⟨sb, 0, none⟩) size size] w (NRes vb sb size W nd0 q w vis sl)
  | 0, _, _, _, _, hf, _, _, _, _, _, _, _, _ => by omega
  | fuel + 1, q, w, vis, sl, hf, hq1, hq63, hrw, hrn, hav, has, hlv, hls => by
    have HI : Hid (Inp n0 size W nd0) := hinp
    have HW : Hid (RowN w vb sb wa wn W) := hrw
    have HN : Hid (RowN w vb sb na nn nd0) := hrn
    have HV : Hid (Arr w vb 4 (bv vis)) := hav
    have HS : Hid (Arr w sb 23 sl) := has
    have HLV : Hid (vis.length = size ∧ sl.length = size) := ⟨hlv, hls⟩
    have IH : Hid (∀ (q : Nat) (w : World) (vis : List Bool) (sl : List Value), size - q < fuel → 1 ≤ q → q ≤ 9223372036854775807 → RowN w vb sb wa wn W → RowN w vb sb na nn nd0 → Arr w vb 4 (bv vis) → Arr w sb 23 sl → vis.length = size → sl.length = size → Calls Try.prog 13 #[.int .i64 (q : Int), .int .i64 (size : Int), .slice wa wn wc, .slice na nn nc, .slice (some ⟨vb, 0, none⟩) size size, .slice (some ⟨sb, 0, none⟩) size size] w (NRes vb sb size W nd0 q w vis sl)) := fun q w vis sl => set_any hinp hn0 hsz hwn hnn hne fuel q w vis sl
    have hvb : vb < w.heap.size := hav.lt
    have hsb : sb < w.heap.size := has.lt
    clear hinp hrw hrn hav has hlv hls
    by_cases hqs : size ≤ q
    · have hqs' : (size : Int) ≤ (q : Int) := by omega
      have hnv : ∀ x, ¬ Vis size nd0 q x := fun x hx => by have := (vis_not hx).1; omega
      have HNv : Hid (∀ x, ¬ Vis size nd0 q x) := hnv
      clear hnv
      obtain ⟨x, rfl⟩ : ∃ x, q = size + x := ⟨q - size, by omega⟩
      have hxe : ((size + x : Nat) : Int) - (size : Int) = (x : Int) := by omega
      have hIn : Hid (∀ y, In size W nd0 (size + x) y ↔ W[x]? = some (y : Int)) := fun y => by
        have := in_leaf (W := W) (nd := nd0) (y := y) (show size ≤ size + x by omega)
        rw [Nat.add_sub_cancel_left] at this
        exact this
      by_cases hx : x < wn
      · have hx' : (x : Int) < (wn : Int) := by omega
        obtain ⟨b, off, rfl, hb, hcell⟩ := HW.out.row.at x hx
        have EX : Hid (W[x]? = some (W.getD x 0)) := getD_of (by rw [HW.out.1]; exact hx) 0
        generalize W.getD x 0 = v at *
        have x0 : (0 : Int) ≤ (x : Int) := by omega
        by_cases hv : v < 0
        · have HSl : Hid (SetSlot w vb sb (.slice none 0 0) (In size W nd0 (size + x))) := slot_nil fun y hy => by
            have h1 := (hIn.out y).1 hy
            rw [EX.out] at h1
            injection h1 with h1
            omega
          have HNs : Hid (NS vb sb size W nd0 (size + x) w w vis vis sl sl) := ns_none HNv.out (Kept.refl _ _ _) HV.out HS.out
          go_enter Try.func13, Try.ntmps13
          go_wp2_with fail
          go_ret
          exact ⟨_, vis, sl, rfl, HSl, HNs⟩
        · obtain ⟨u, rfl⟩ : ∃ u : Nat, v = (u : Int) := ⟨v.toNat, by omega⟩
          have HSl : Hid (SetSlot (w.alloc (.cells #[.int .i64 (u : Int)] 3)) vb sb (.slice (some ⟨w.heap.size, 0, none⟩) 1 1) (In size W nd0 (size + x))) := slot_one hvb hsb fun y => by
            rw [hIn.out y, EX.out]
            exact ⟨fun h => by injection h with h; omega, fun h => by rw [h]⟩
          have HNs : Hid (NS vb sb size W nd0 (size + x) w (w.alloc (.cells #[.int .i64 (u : Int)] 3)) vis vis sl sl) := ns_none HNv.out (kept_alloc _ _) (HV.out.alloc _) (HS.out.alloc _)
          have hv' : ¬ (u : Int) < 0 := by omega
          go_enter Try.func13, Try.ntmps13
          go_wp2_with fail
          go_ret
          exact ⟨_, vis, sl, rfl, HSl, HNs⟩
      · have hx' : ¬ (x : Int) < (wn : Int) := by omega
        have hx2 : (wn : Int) ≤ (x : Int) := by omega
        have HSl : Hid (SetSlot w vb sb (.slice none 0 0) (In size W nd0 (size + x))) := slot_nil fun y hy => by
          have h1 := (hIn.out y).1 hy
          have h2 := (List.getElem?_eq_some_iff.1 h1).1
          rw [HW.out.1] at h2
          exact hx h2
        have HNs : Hid (NS vb sb size W nd0 (size + x) w w vis vis sl sl) := ns_none HNv.out (Kept.refl _ _ _) HV.out HS.out
        go_enter Try.func13, Try.ntmps13
        go_wp2_with fail
        go_ret
        exact ⟨_, vis, sl, rfl, HSl, HNs⟩
    · have hqs' : ¬ (size : Int) ≤ (q : Int) := by omega
      have hqn : q < nn := by have := HI.out.l; rw [HN.out.1] at this; omega
      have hqn' : (q : Int) < (nn : Int) := by omega
      obtain ⟨b, off, rfl, hb, hcell⟩ := HN.out.row.at q hqn
      have EX : Hid (nd0[q]? = some (nd0.getD q 0)) := getD_of (by rw [HN.out.1]; exact hqn) 0
      generalize nd0.getD q 0 = v at *
      by_cases hst : v = -2
      · subst hst
        have H1 : Hid (Calls Try.prog 13 #[.int .i64 (2 * (q : Int)), .int .i64 (size : Int), .slice wa wn wc, .slice (some ⟨b, off, none⟩) nn nc, .slice (some ⟨vb, 0, none⟩) size size, .slice (some ⟨sb, 0, none⟩) size size] w (NRes vb sb size W nd0 (2 * q) w vis sl)) := by
          have := IH.out (2 * q) w vis sl (by omega) (by omega) (by omega) HW.out HN.out HV.out HS.out HLV.out.1 HLV.out.2
          rw [show ((2 * q : Nat) : Int) = 2 * (q : Int) from by omega] at this
          exact this
        go_enter Try.func13, Try.ntmps13
        go_wp2_with fail
        refine H1.out.mono ?_
        rintro e w1 ⟨val1, vis1, sl1, rfl, HS1, HN1⟩
        obtain ⟨a1, n1, c1, s1, rfl, hn1, hrow1, hset1⟩ := HS1.out
        have HR1 : Hid (RowN w1 vb sb a1 n1 (ints s1) ∧ SetOf (In size W nd0 (2 * q)) s1) := ⟨hrow1, hset1⟩
        have H2 : Hid (Calls Try.prog 13 #[.int .i64 (2 * (q : Int) + 1), .int .i64 (size : Int), .slice wa wn wc, .slice (some ⟨b, off, none⟩) nn nc, .slice (some ⟨vb, 0, none⟩) size size, .slice (some ⟨sb, 0, none⟩) size size] w1 (NRes vb sb size W nd0 (2 * q + 1) w1 vis1 sl1)) := by
          have := IH.out (2 * q + 1) w1 vis1 sl1 (by omega) (by omega) (by omega) (HW.out.keep HN1.out.kept) (HN.out.keep HN1.out.kept) HN1.out.av HN1.out.asl (HN1.out.lv.trans HLV.out.1) (HN1.out.ls.trans HLV.out.2)
          rw [show ((2 * q + 1 : Nat) : Int) = 2 * (q : Int) + 1 from by omega] at this
          exact this
        clear H1 hrow1 hset1 HS1 IH hcell
        go_wp2_with fail
        refine H2.out.mono ?_
        rintro e w2 ⟨val2, vis2, sl2, rfl, HS2, HN2⟩
        obtain ⟨a2, n2, c2, s2, rfl, hn2, hrow2, hset2⟩ := HS2.out
        have HR2 : Hid (RowN w2 vb sb a2 n2 (ints s2) ∧ SetOf (In size W nd0 (2 * q + 1)) s2) := ⟨hrow2, hset2⟩
        have HU : Hid (Calls Try.prog 32 #[.slice a1 n1 c1, .slice a2 n2 c2] w2 fun e w' => URes s1 s2 w2 e w' ∧ Below w2.heap.size w2 w') := union_any a1 a2 n1 c1 n2 c2 s1 s2 w2 (HR1.out.1.keep HN2.out.kept).row HR2.out.1.row (by omega) (by omega) HR1.out.2.1 HR2.out.2.1
        clear H2 hrow2 hset2 HS2
        go_wp2_with fail
        refine HU.out.mono ?_
        rintro e w3 ⟨⟨ov, o, rfl, ho1, ho2, ho3⟩, hb3⟩
        have hvb2 : vb < w2.heap.size := HN2.out.av.lt
        have hsb2 : sb < w2.heap.size := HN2.out.asl.lt
        have HSl : Hid (SetSlot w3 vb sb ov (In size W nd0 q)) := slot_union hn0 HR1.out.2 HR2.out.2 (fun y => in_made (by omega) EX.out) (fun y hy => in_lt HI.out hq1 hy) ho1 ho2 ho3 hvb2 hsb2
        obtain ⟨HNs, HSf⟩ : Hid (NS vb sb size W nd0 q w ((w3.setCell ⟨vb, q, none⟩ (.bool true)).setCell ⟨sb, q, none⟩ ov) vis (vis2.set q true) sl (sl2.set q ov)) ∧ Hid (SetSlot ((w3.setCell ⟨vb, q, none⟩ (.bool true)).setCell ⟨sb, q, none⟩ ov) vb sb ov (In size W nd0 q)) := ns_made hne (by omega) EX.out hq1 HLV.out.1 HLV.out.2 HN1.out HN2.out hb3 HSl.out
        have a3 : Arr w3 vb 4 (bv vis2) := by unfold Arr; rw [hb3.block vb hvb2]; exact HN2.out.av
        have b3 : Arr w3 sb 23 sl2 := by unfold Arr; rw [hb3.block sb hsb2]; exact HN2.out.asl
        have cv : w3.cell? ⟨vb, q, none⟩ = some (.bool (vis2.getD q false)) := by rw [a3.cell q, bv_at vis2 q (by rw [HN2.out.lv, HN1.out.lv, HLV.out.1]; omega)]
        have fv' := a3.free q
        have cs : w3.cell? ⟨sb, q, none⟩ = some (sl2.getD q (.slice none 0 0)) := by rw [b3.cell q]; exact getD_of (by rw [HN2.out.ls, HN1.out.ls, HLV.out.2]; omega) _
        have fs := b3.free q
        obtain ⟨oa, oc, rfl⟩ := own_val ho3
        have hqz : (q : Int) < (size : Int) := by omega
        have q0 : (0 : Int) ≤ (q : Int) := by omega
        have hne' : sb ≠ vb := fun e => hne e.symm
        clear HU ho1 ho2 ho3 hb3 a3 b3 HSl HN1 HN2 HR1 HR2
        generalize vis2.getD q false = bq at *
        generalize sl2.getD q (.slice none 0 0) = vq at *
        generalize o.length = ol at *
        go_wp2_with fail
        go_ret
        exact ⟨_, _, _, rfl, HSf, HNs⟩
      · have hst' : ¬ v = -2 := hst
        have HNv : Hid (∀ x, ¬ Vis size nd0 q x) := fun x hx => by
          have h1 := (vis_not hx).2
          rw [EX.out] at h1
          injection h1 with h1
          exact hst h1
        have hIn : Hid (∀ y, In size W nd0 q y ↔ v = (y : Int)) := fun y => in_kept (by omega) EX.out hst
        by_cases hv : v < 0
        · have HSl : Hid (SetSlot w vb sb (.slice none 0 0) (In size W nd0 q)) := slot_nil fun y hy => by
            have h1 := (hIn.out y).1 hy
            omega
          have HNs : Hid (NS vb sb size W nd0 q w w vis vis sl sl) := ns_none HNv.out (Kept.refl _ _ _) HV.out HS.out
          go_enter Try.func13, Try.ntmps13
          go_wp2_with fail
          go_ret
          exact ⟨_, vis, sl, rfl, HSl, HNs⟩
        · obtain ⟨u, rfl⟩ : ∃ u : Nat, v = (u : Int) := ⟨v.toNat, by omega⟩
          have HSl : Hid (SetSlot (w.alloc (.cells #[.int .i64 (u : Int)] 3)) vb sb (.slice (some ⟨w.heap.size, 0, none⟩) 1 1) (In size W nd0 q)) := slot_one hvb hsb fun y => by
            rw [hIn.out y]; omega
          have HNs : Hid (NS vb sb size W nd0 q w (w.alloc (.cells #[.int .i64 (u : Int)] 3)) vis vis sl sl) := ns_none HNv.out (kept_alloc _ _) (HV.out.alloc _) (HS.out.alloc _)
          have hv' : ¬ (u : Int) < 0 := by omega
          go_enter Try.func13, Try.ntmps13
          go_wp2_with fail
          go_ret
          exact ⟨_, vis, sl, rfl, HSl, HNs⟩
end Go.Proofs.Qxb6601646a.Nw
