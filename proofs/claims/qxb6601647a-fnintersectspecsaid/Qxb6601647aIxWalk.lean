import Derived.Test.Qxb6601647aIxClone
import Derived.Test.Qxb6601647aIxPlain
import Derived.Sort.OwnSorted
import Derived.Deep.AppendLies
namespace Go.Proofs.Qxb6601647a.Ix
open Go.RowKit Go.Sort

/-- sameList at one value twice. -/
theorem same_self (a : Option Addr) (n c : Nat) (ss : List ByteArray) (w : World) (hr : Row w a n ss) (hn : n ≤ 9223372036854775807) :
    Calls Try.prog 18 #[.slice a n c, .slice a n c] w fun e w' => e = .returned (.bool true) ∧ ∃ q, w' = w.drewN q := by
  have heq := fun (wx : World) (a : Option Addr) (n c : Nat) => Lib.run_eql_slice_nil (P := Try.prog) wx 26 9 a n c 0 0 Try.underlying26
  go_enter Try.func18, Try.ntmps18
  go_wp2
  go_loopw [5] (fun i wr => ∃ k q : Nat, k ≤ n ∧ i = .int .i64 k ∧ wr = w.drewN q) (fun i _ => n - (intOf i).toNat)
  case atStart => exact ⟨0, 0, Nat.zero_le _, rfl, rfl⟩
  case round =>
    obtain ⟨k, q, hk, rfl, rfl⟩ := hrel
    by_cases hlt : k < n
    · obtain ⟨b, off, rfl, hb, hcell⟩ := hr.at k hlt
      have hlt' : (k : Int) < (n : Int) := by omega
      have h0 : (0 : Int) ≤ (k : Int) := by omega
      clear hr
      generalize ss.getD k ByteArray.empty = x at *
      have hx : (x.toList != x.toList) = false := by simp
      go_wp2
      go_quiet (fail)
      go_wp2
      go_roundw
      case rel => exact ⟨k + 1, _, by omega, by go_num, rfl⟩
      case measure => simp [intOf]; omega
    · have hlt' : ¬ (k : Int) < (n : Int) := by omega
      go_wp2
      go_ret
      exact ⟨rfl, _, rfl⟩

/-- slices.Contains at a row. -/
theorem has_any (a : Option Addr) (n c : Nat) (ss : List ByteArray) (x : ByteArray) (w : World) (hr : Row w a n ss) (hn : n ≤ 9223372036854775807) :
    Calls Try.prog 28 #[.slice a n c, .string x] w fun e w' => e = .returned (.bool (Lib.containsS ss x)) ∧ w' = w := by
  rcases hr with ⟨hl, h⟩
  rcases h with h | ⟨b, off, rfl, hb, hc⟩
  · subst h
    have e : ss = [] := List.eq_nil_of_length_eq_zero hl
    subst e
    have E : Lib.containsS [] x = false := by
      rw [Bool.eq_false_iff]; intro h; have := (Lib.containsS_iff _ _).1 h; simp at this
    rw [E]
    exact Try.slices_Contains_string_empty a c x w
  · have := Try.slices_Contains_string b off n c ss x w (by omega) hn (by rw [hl]; exact hc)
    rw [List.take_of_length_le (by omega)] at this
    exact this

/-- Strings as lists of bytes, and back. -/
def ls (ss : List ByteArray) : List (List UInt8) := ss.map (·.data.toList)
def bs (l : List (List UInt8)) : List ByteArray := l.map fun x => ⟨x.toArray⟩
theorem sc_ls (ss : List ByteArray) : sc ss = (ls ss).map encStr := by
  unfold sc ls
  rw [List.map_map]
  rfl
theorem sc_bs (l : List (List UInt8)) : sc (bs l) = l.map encStr := by
  unfold sc bs
  rw [List.map_map]
  rfl
theorem mem_bs (l : List (List UInt8)) (x : ByteArray) : x ∈ bs l ↔ x.data.toList ∈ l := by
  unfold bs
  rw [List.mem_map]
  constructor
  · rintro ⟨y, hy, rfl⟩; simpa using hy
  · intro h; exact ⟨_, h, rfl⟩
theorem mem_ls (ss : List ByteArray) (x : ByteArray) : x.data.toList ∈ ls ss ↔ x ∈ ss := by
  unfold ls
  rw [List.mem_map]
  constructor
  · rintro ⟨y, hy, e⟩
    have : y = x := ByteArray.ext (Array.ext' e)
    rw [← this]; exact hy
  · intro h; exact ⟨x, h, rfl⟩

theorem grow_none (w : World) : grow w #[] = w := by simp [grow]

theorem grownBy_trans {a b c : World} {g : Nat} (h1 : a.grownBy b (some g)) (h2 : b.grownBy c (some g)) : a.grownBy c (some g) :=
  ⟨h2.os.trans h1.os, h2.tape.trans h1.tape, h2.output.trans h1.output, Nat.le_trans h1.size h2.size, fun k hk hne => (h2.block k (Nat.lt_of_lt_of_le hk h1.size) hne).trans (h1.block k hk hne)⟩

theorem compact_row (w1 : World) (g n q : Nat) (cur : Array Value) (fr : Nat × Nat) (hb : w1.heap[g]? = some (.cells cur 9 fr)) (hn : n ≤ cur.size) (zs : List (List UInt8)) (hz : zs.length = n) :
    Row (putRow encStr (Sort.ahead w1 q) g 0 (Lib.compact zs ++ List.replicate (n - (Lib.compact zs).length) []).toArray) (some ⟨g, 0, none⟩) (Lib.compact zs).length (bs (Lib.compact zs)) ∧
      w1.grownBy (putRow encStr (Sort.ahead w1 q) g 0 (Lib.compact zs ++ List.replicate (n - (Lib.compact zs).length) []).toArray) (some g) := by
  have hcl := compact_length zs
  generalize Lib.compact zs = C at *
  have hD : (C ++ List.replicate (n - C.length) ([] : List UInt8)).length = n := by simp; omega
  have h1 := grownBy_sorted (w := w1) (g := g) (n := q) (os := #[]) (C ++ List.replicate (n - C.length) []).toArray
  have h2 := heap_sorted (n := q) (os := #[]) (C ++ List.replicate (n - C.length) ([] : List UInt8)).toArray hb
  have h3 := take_putCells cur (C ++ List.replicate (n - C.length) []) (by omega)
  rw [grow_none] at h1 h2
  refine ⟨⟨by simp [bs], .inr ⟨g, 0, rfl, (Array.getElem?_eq_some_iff.1 h2).1, fun j hj => ?_⟩⟩, h1⟩
  rw [Nat.zero_add, cell_of_row _ g j _ 9 fr h2]
  generalize putCells encStr 0 (C ++ List.replicate (n - C.length) []).toArray cur = cu at *
  have e1 : cu.toList[j]? = (cu.toList.take n)[j]? := by rw [List.getElem?_take, if_pos (by omega)]
  rw [hD] at h3
  rw [← Array.getElem?_toList, e1, h3, List.getElem?_map, List.getElem?_append_left hj, List.getElem?_eq_getElem hj]
  simp [bs, hj]

/-- sortedSet at an owned row. -/
theorem sset_any (B g n cap : Nat) (ss : List ByteArray) (w : World) (ho : w.ownsRow B 9 1 (.slice (some ⟨g, 0, none⟩) n cap) n (sc ss)) (hn : n ≤ 4096) :
    Calls Try.prog 29 #[.slice (some ⟨g, 0, none⟩) n cap] w fun e w' => ∃ m, m ≤ 4096 ∧ e = .returned (.slice (some ⟨g, 0, none⟩) m cap) ∧ Row w' (some ⟨g, 0, none⟩) m (bs (sset (ls ss))) ∧ w.grownBy w' (some g) := by
  have hl : ss.length = n := by have := ho.1; rw [sc_length] at this; omega
  rcases ho.2 with ⟨h, _⟩ | ⟨g', cap', cur, h, hbase, hb, h1, h2, h3, h4⟩
  · cases h
  cases h
  have hlen : (ls ss).length = n := by simp [ls, hl]
  by_cases h0 : n = 0
  · subst h0
    have e : ss = [] := List.eq_nil_of_length_eq_zero hl
    subst e
    go_enter Try.func29, Try.ntmps29
    go_wp2_with (first | (go_at_call 34; refine (Try.slices_Sort_string_none _ _ _).mono ?_; rintro e w' ⟨rfl, rfl⟩) | (go_at_call 35; refine (Try.slices_Compact_string_empty _ _ _).mono ?_; rintro e w' ⟨rfl, rfl⟩))
    go_ret
    refine ⟨0, by omega, rfl, ⟨?_, .inl rfl⟩, World.grownBy.refl _ _⟩
    simp [bs, ls, sset, Lib.compact, Lib.compactUpTo]
  · have hH : Holds encStr w g 0 (ls ss).toArray := holds_of_block hb (by rw [hlen, ← sc_ls]; simpa using h4)
    have hgl : g < w.heap.size := (Array.getElem?_eq_some_iff.1 hb).1
    have hs := Try.slices_Sort_string g 0 cap (ls ss) w hH hgl (by omega)
    rw [hlen] at hs
    have hml : ((ls ss).mergeSort fun x y => decide (x ≤ y)).length = n := by rw [List.length_mergeSort, hlen]
    have HC : ∀ wx : World, Holds encStr wx g 0 ((ls ss).mergeSort fun x y => decide (x ≤ y)).toArray → _ := fun wx hx => Try.slices_Compact_string g 0 cap ((ls ss).mergeSort fun x y => decide (x ≤ y)) wx hx (by omega) (by omega)
    rw [hml] at HC
    have HC' : Hid _ := HC
    clear HC
    have hcl := compact_length ((ls ss).mergeSort fun x y => decide (x ≤ y))
    go_enter Try.func29, Try.ntmps29
    go_wp2_with fail
    refine hs.mono ?_
    rintro e w1 ⟨rfl, nn, os, hw1⟩
    have hg1 : w.grownBy w1 (some g) := by rw [hw1]; exact grownBy_sorted _
    have hb1 : w1.heap[g]? = some (.cells (putCells encStr 0 ((ls ss).mergeSort fun x y => decide (x ≤ y)).toArray cur) 9 (0, 0)) := by rw [hw1]; exact heap_sorted _ hb
    clear hw1 hs
    have hs1 : (putCells encStr 0 ((ls ss).mergeSort fun x y => decide (x ≤ y)).toArray cur).size = cur.size := by simp [putCells]
    have hH1 : Holds encStr w1 g 0 ((ls ss).mergeSort fun x y => decide (x ≤ y)).toArray := holds_of_block hb1 (take_putCells cur _ (by rw [hml]; omega))
    go_wp2_with fail
    refine (HC'.out w1 hH1).mono ?_
    rintro e w2 ⟨rfl, q, hw2⟩
    have hR : Row w2 (some ⟨g, 0, none⟩) (sset (ls ss)).length (bs (sset (ls ss))) ∧ w1.grownBy w2 (some g) := by
      rw [hw2]
      exact compact_row w1 g n q _ _ hb1 (by rw [hs1]; omega) _ hml
    clear hw2
    go_wp2
    go_ret
    refine ⟨(sset (ls ss)).length, ?_, rfl, hR.1, ?_⟩
    · unfold sset; omega
    · exact grownBy_trans hg1 hR.2

/-- What is gathered of the first k strings. -/
def both (ss ts : List ByteArray) : List ByteArray := ss.filter (Lib.containsS ts)
theorem both_len (ss ts : List ByteArray) (k : Nat) : (both (ss.take k) ts).length ≤ k := by
  unfold both
  exact Nat.le_trans (List.length_filter_le _ _) (by simp; omega)
theorem both_snoc (ss ts : List ByteArray) (k : Nat) (h : k < ss.length) (x : ByteArray) (hx : ss.getD k ByteArray.empty = x) :
    both (ss.take (k + 1)) ts = both (ss.take k) ts ++ (if Lib.containsS ts x then [x] else []) := by
  have e : ss[k] = x := by rw [← hx, List.getD_eq_getElem?_getD, List.getElem?_eq_getElem h]; rfl
  unfold both
  rw [List.take_succ_eq_append_getElem h, List.filter_append, e]
  by_cases hc : Lib.containsS ts x = true <;> simp [hc]

set_option maxHeartbeats 2000000 in
/-- intersect, both lists set. -/
theorem inter_any (ad bd : Addr) (n c m d : Nat) (ss ts : List ByteArray) (w : World) (hr : Row w (some ad) n ss) (hq : Row w (some bd) m ts) (hn : n ≤ 4096) (hm : m ≤ 4096) :
    Calls Try.prog 24 #[.slice (some ad) n c, .slice (some bd) m d] w fun e w' => ∃ g r cap, r ≤ 4096 ∧ e = .returned (.slice (some ⟨g, 0, none⟩) r cap) ∧ Row w' (some ⟨g, 0, none⟩) r (bs (sset (ls (both ss ts)))) ∧ Below w.heap.size w w' := by
  obtain ⟨i0, hi, hz0, hz1, hz2⟩ := info_parts info9
  have HL : Hid (ss.length = n) := hr.1
  have heq := fun (wx : World) (a : Option Addr) (n c : Nat) => Lib.run_eql_slice_nil (P := Try.prog) wx 26 9 a n c 0 0 Try.underlying26
  go_enter Try.func24, Try.ntmps24
  go_wp2
  go_loopw [5, 19] (fun v i wr => ∃ k : Nat, k ≤ n ∧ i = .int .i64 k ∧ Below w.heap.size w wr ∧ ∃ g L cap, v = .slice (some ⟨g, 0, none⟩) L cap ∧ w.heap.size ≤ g ∧ wr.ownsRow w.heap.size 9 1 (.slice (some ⟨g, 0, none⟩) L cap) L (sc (both (ss.take k) ts))) (fun _ i _ => n - (intOf i).toNat)
  case atStart => exact ⟨0, Nat.zero_le _, rfl, (Below.refl _ _).alloc (Nat.le_refl _) _, w.heap.size, 0, 0, rfl, Nat.le_refl _, World.ownsRow_lit w #[] 0 (Nat.le_refl _) (Nat.zero_le _) rfl⟩
  case round =>
    obtain ⟨k, hk, rfl, hbel, g, L, cap, rfl, hg, hown⟩ := hrel
    have hsz := hbel.size
    have hL : L ≤ k := by
      have h1 := hown.1
      have h2 := both_len ss ts k
      rw [sc_length] at h1
      omega
    by_cases hlt : k < n
    · obtain ⟨b, off, hea, hbl, hcell⟩ := (hr.keep hbel).at k hlt
      injection hea with hea
      subst hea
      have hlt' : (k : Int) < (n : Int) := by omega
      obtain ⟨x, HX⟩ : ∃ x, Hid (ss.getD k ByteArray.empty = x) := ⟨_, rfl⟩
      rw [HX.out] at hcell
      have SN : Hid _ := both_snoc ss ts k (by rw [HL.out]; exact hlt) x HX.out
      have HC : Hid (Calls Try.prog 28 #[.slice (some bd) m d, .string x] wr fun e w' => e = .returned (.bool (Lib.containsS ts x)) ∧ wr = w') := (has_any (some bd) m d ts x wr (hq.keep hbel) (by omega)).mono fun e w' h => ⟨h.1, h.2.symm⟩
      by_cases hc : Lib.containsS ts x = true
      · rw [hc] at HC SN
        have O : Hid (both (ss.take (k + 1)) ts = both (ss.take k) ts ++ [x]) := SN.out
        clear SN hc HX
        have HRQ : Hid (Row w (some ⟨b, off, none⟩) n ss ∧ Row w (some bd) m ts) := ⟨hr, hq⟩
        clear hr hq
        go_wp2_with (first | (go_at_call 28; refine HC.out.mono ?_; rintro e w' ⟨rfl, rfl⟩) | (at_builtin; refine wpList_append_lies _ rfl _ _ 26 rfl w.heap.size 9 i0 (.string ByteArray.empty) 1 16 Try.underlying26 hi hz0 hz1 hz2 rfl (by decide) _ L _ rfl (hown.alloc _) ⟨wr.heap.size, 0, none⟩ 1 1 [.string x] rfl rfl (cell_one_new _ _ _) (by simp [Value.oneCell']) (by omega) (by unfold maxLen; omega) (by omega) (by simp; omega) (wr.heap.size + 1) (by simp) ?_; intro g1 cap1 w1 hown1 hgrow hat hlt1))
        have hb1 : RowKit.Below w.heap.size w w1 := (hbel.alloc hsz _).grown hgrow (by simp; omega) (fun y hy => by have e : some g = some y := hy; injection e with e; omega)
        have hg1 : w.heap.size ≤ g1 := by exact hat.elim (fun h => by have e : some g = some g1 := h; injection e with e; omega) (fun h => by omega)
        have ho : w1.ownsRow w.heap.size 9 1 (.slice (some ⟨g1, 0, none⟩) (L + 1) cap1) (L + 1) (sc (both (ss.take (k + 1)) ts)) := by rw [O.out, sc_append]; exact hown1
        clear hown hown1 hgrow hat
        go_wp2
        go_roundw
        case rel => exact ⟨k + 1, by omega, by go_num, hb1, g1, L + 1, cap1, rfl, hg1, ho⟩
        case measure => simp [intOf]; omega
      · have hc' : Lib.containsS ts x = false := by simpa using hc
        rw [hc'] at HC SN
        have O : Hid (both (ss.take (k + 1)) ts = both (ss.take k) ts) := by show _ = _; have := SN.out; simpa using this
        clear SN hc hc' HX
        have HRQ : Hid (Row w (some ⟨b, off, none⟩) n ss ∧ Row w (some bd) m ts) := ⟨hr, hq⟩
        clear hr hq
        go_wp2_with (go_at_call 28; refine HC.out.mono ?_; rintro e w' ⟨rfl, rfl⟩)
        go_roundw
        case rel => exact ⟨k + 1, by omega, by go_num, hbel, g, L, cap, rfl, hg, by rw [O.out]; exact hown⟩
        case measure => simp [intOf]; omega
    · have hlt' : ¬ (k : Int) < (n : Int) := by omega
      have ho2 : wr.ownsRow w.heap.size 9 1 (.slice (some ⟨g, 0, none⟩) L cap) L (sc (both ss ts)) := by
        rw [List.take_of_length_le (by rw [HL.out]; omega)] at hown
        exact hown
      clear hown hr hq
      go_wp2_with fail
      refine (sset_any w.heap.size g L cap (both ss ts) wr ho2 (by omega)).mono ?_
      rintro e w1 ⟨r, hr1, rfl, hrow, hgr⟩
      go_wp2
      go_ret
      exact ⟨g, r, cap, hr1, rfl, hrow, hbel.grown hgr hsz (fun x hx => by injection hx with hx; omega)⟩

/-- intersect, the first list not set: the second, as it is. -/
theorem inter_nil_l (b : Option Addr) (m d : Nat) (w : World) :
    Calls Try.prog 24 #[.slice none 0 0, .slice b m d] w fun e w' => e = .returned (.slice b m d) ∧ w' = w := by
  have heq := fun (wx : World) (a : Option Addr) (n c : Nat) => Lib.run_eql_slice_nil (P := Try.prog) wx 26 9 a n c 0 0 Try.underlying26
  go_enter Try.func24, Try.ntmps24
  go_wp2
  go_ret
  exact ⟨rfl, rfl⟩

/-- intersect, the second list not set: the first, as it is. -/
theorem inter_nil_r (ad : Addr) (n c : Nat) (w : World) :
    Calls Try.prog 24 #[.slice (some ad) n c, .slice none 0 0] w fun e w' => e = .returned (.slice (some ad) n c) ∧ w' = w := by
  have heq := fun (wx : World) (a : Option Addr) (n c : Nat) => Lib.run_eql_slice_nil (P := Try.prog) wx 26 9 a n c 0 0 Try.underlying26
  go_enter Try.func24, Try.ntmps24
  go_wp2
  go_ret
  exact ⟨rfl, rfl⟩

/-- ZZIntersect. -/
theorem zz_nil_l (b : Option Addr) (m d : Nat) (w : World) :
    Calls Try.prog 17 #[.slice none 0 0, .slice b m d] w fun e w' => e = .returned (.slice b m d) ∧ w' = w := by
  go_enter Try.func17, Try.ntmps17
  go_wp2_with (go_at_call 24; refine (inter_nil_l b m d _).mono ?_; rintro e w' ⟨rfl, rfl⟩)
  go_ret
  exact ⟨rfl, rfl⟩
theorem zz_nil_r (ad : Addr) (n c : Nat) (w : World) :
    Calls Try.prog 17 #[.slice (some ad) n c, .slice none 0 0] w fun e w' => e = .returned (.slice (some ad) n c) ∧ w' = w := by
  go_enter Try.func17, Try.ntmps17
  go_wp2_with (go_at_call 24; refine (inter_nil_r ad n c _).mono ?_; rintro e w' ⟨rfl, rfl⟩)
  go_ret
  exact ⟨rfl, rfl⟩
theorem zz_any (ad bd : Addr) (n c m d : Nat) (ss ts : List ByteArray) (w : World) (hr : Row w (some ad) n ss) (hq : Row w (some bd) m ts) (hn : n ≤ 4096) (hm : m ≤ 4096) :
    Calls Try.prog 17 #[.slice (some ad) n c, .slice (some bd) m d] w fun e w' => ∃ g r cap, r ≤ 4096 ∧ e = .returned (.slice (some ⟨g, 0, none⟩) r cap) ∧ Row w' (some ⟨g, 0, none⟩) r (bs (sset (ls (both ss ts)))) ∧ RowKit.Below w.heap.size w w' := by
  go_enter Try.func17, Try.ntmps17
  go_wp2_with fail
  refine (inter_any ad bd n c m d ss ts _ hr hq hn hm).mono ?_
  rintro e w1 ⟨g, r, cap, h1, rfl, h2, h3⟩
  go_wp2
  go_ret
  exact ⟨g, r, cap, h1, rfl, h2, h3⟩
end Go.Proofs.Qxb6601647a.Ix
