import Derived.Test.Qxb6601647aIxSmall
namespace Go.Proofs.Qxb6601647a.Ix
open Go.RowKit

theorem info9 : (Try.prog.info? 9).map (fun i => (i.zero, i.size, i.bytes)) = some (some (.string ByteArray.empty), 1, 16) := by kernel_rfl

/-- Strings as cells. -/
def sc (ss : List ByteArray) : List Value := ss.map Value.string
theorem sc_length (ss : List ByteArray) : (sc ss).length = ss.length := by simp [sc]
theorem sc_append (a b : List ByteArray) : sc (a ++ b) = sc a ++ sc b := by simp [sc]
theorem sc_at (ss : List ByteArray) (k : Nat) (h : k < ss.length) : (sc ss)[k]? = some (.string (ss.getD k ByteArray.empty)) := by
  simp [sc, List.getElem?_eq_getElem h]

theorem row_of_own {w : World} {base g n cap : Nat} {ss : List ByteArray} (h : w.ownsRow base 9 1 (.slice (some ⟨g, 0, none⟩) n cap) n (sc ss)) : Row w (some ⟨g, 0, none⟩) n ss := by
  have hl : ss.length = n := by have := h.1; rw [sc_length] at this; omega
  refine ⟨hl, .inr ⟨g, 0, rfl, ?_, fun j hj => ?_⟩⟩
  · rcases h.2 with ⟨h1, _⟩ | ⟨g', cap', cur, h1, _, h3, _⟩
    · cases h1
    · cases h1
      exact (Array.getElem?_eq_some_iff.1 h3).1
  · have := h.cellAt j (by omega)
    rw [Nat.zero_add, this, sc_at ss j (by omega)]

theorem clone_step (ss : List ByteArray) (n k : Nat) (hl : ss.length = n) (h : k < n) :
    (sc (ss.take k) ++ List.replicate (n - k) (Value.string ByteArray.empty)).set k (.string (ss.getD k ByteArray.empty)) = sc (ss.take (k + 1)) ++ List.replicate (n - (k + 1)) (Value.string ByteArray.empty) := by
  have hk : k < ss.length := by omega
  have e1 : (sc (ss.take k)).length = k := by simp [sc]; omega
  rw [List.set_append_right _ _ (by omega), e1, Nat.sub_self, show n - k = (n - (k + 1)) + 1 from by omega, List.replicate_succ, List.set_cons_zero]
  rw [List.take_succ_eq_append_getElem hk, sc_append, List.append_assoc, List.getD_eq_getElem?_getD, List.getElem?_eq_getElem hk]
  rfl

theorem set_own {w : World} {base g n cap : Nat} {xs ys : List Value} {k : Nat} {u : Value} (h : w.ownsRow base 9 1 (.slice (some ⟨g, 0, none⟩) n cap) n xs) (e : xs.set k u = ys) :
    (w.setCell ⟨g, k, none⟩ u).ownsRow base 9 1 (.slice (some ⟨g, 0, none⟩) n cap) n ys := by
  rw [← e]; exact (h.stored k u).1

theorem clone_nil (w : World) : Calls Try.prog 16 #[.slice none 0 0] w fun e w' => e = .returned (.slice none 0 0) ∧ w' = w := by
  have heq := fun (wx : World) (a : Option Addr) (n c : Nat) => Lib.run_eql_slice_nil (P := Try.prog) wx 26 9 a n c 0 0 Try.underlying26
  go_enter Try.func16, Try.ntmps16
  go_wp2
  go_ret
  exact ⟨rfl, rfl⟩

set_option maxHeartbeats 1000000 in
theorem clone_any (ad : Addr) (n c : Nat) (ss : List ByteArray) (w : World) (hr : Row w (some ad) n ss) (hn : n ≤ 4096) :
    Calls Try.prog 16 #[.slice (some ad) n c] w fun e w' => ∃ g, e = .returned (.slice (some ⟨g, 0, none⟩) n n) ∧ Row w' (some ⟨g, 0, none⟩) n ss ∧ Below w.heap.size w w' := by
  obtain ⟨i0, hi, hz0, hz1, hz2⟩ := info_parts info9
  have HL : Hid (ss.length = n) := hr.1
  have heq := fun (wx : World) (a : Option Addr) (n c : Nat) => Lib.run_eql_slice_nil (P := Try.prog) wx 26 9 a n c 0 0 Try.underlying26
  go_enter Try.func16, Try.ntmps16
  go_wp2_with (at_make; refine wpList_make_full _ rfl _ _ 26 rfl w.heap.size 9 i0 (.string ByteArray.empty) 1 Try.underlying26 hi hz0 hz1 _ _ _ _ n rfl rfl rfl rfl (by rw [hz2]; omega) (by unfold maxLen; omega) (by omega) ?_; intro w1 hown1 hgrow1)
  have hb1 : Below w.heap.size w w1 := (Below.refl _ _).grown hgrow1 (by omega) (fun x hx => by cases hx)
  have ho1 : w1.ownsRow w.heap.size 9 1 (.slice (some ⟨w.heap.size, 0, none⟩) n n) n (sc (ss.take 0) ++ List.replicate (n - 0) (Value.string ByteArray.empty)) := by
    have e : (madeCells (Value.string ByteArray.empty).cells (n * 1)).toList = sc (ss.take 0) ++ List.replicate (n - 0) (Value.string ByteArray.empty) := by
      rw [Nat.mul_one, show (Value.string ByteArray.empty).cells = #[Value.string ByteArray.empty] from rfl, toList_madeCells_one]
      simp [sc]
    rw [← e]; exact hown1
  clear hown1 hgrow1
  go_loopw [4] (fun i wr => ∃ k : Nat, k ≤ n ∧ i = .int .i64 k ∧ Below w.heap.size w wr ∧ wr.ownsRow w.heap.size 9 1 (.slice (some ⟨w.heap.size, 0, none⟩) n n) n (sc (ss.take k) ++ List.replicate (n - k) (Value.string ByteArray.empty))) (fun i _ => n - (intOf i).toNat)
  case atStart => exact ⟨0, Nat.zero_le _, rfl, hb1, ho1⟩
  case round =>
    clear hb1 ho1
    obtain ⟨k, hk, rfl, hb, ho⟩ := hrel
    by_cases hlt : k < n
    · obtain ⟨b, off, hea, hbl, hcell⟩ := (hr.keep hb).at k hlt
      injection hea with hea
      subst hea
      have hlt' : (k : Int) < (n : Int) := by omega
      have hc2 := ho.cellAt k (by omega)
      have hf2 := ho.frozenAt k
      have E : Hid _ := clone_step ss n k HL.out hlt
      have hc3 : (sc (ss.take k) ++ List.replicate (n - k) (Value.string ByteArray.empty))[k]? = some (Value.string ByteArray.empty) := by
        have e1 : (sc (ss.take k)).length = k := by have := HL.out; simp [sc]; omega
        rw [List.getElem?_append_right (by omega), e1, Nat.sub_self, List.getElem?_replicate, if_pos (by omega)]
      rw [hc3] at hc2
      clear hc3
      have O : Hid _ := set_own ho E.out
      have HB : Hid _ := hb.setCell (p := ⟨w.heap.size, k, none⟩) (Nat.le_refl _) (.string (ss.getD k ByteArray.empty))
      clear E ho hb
      go_wp2
      go_roundw
      case rel => exact ⟨k + 1, by omega, by go_num, HB.out, O.out⟩
      case measure => simp [intOf]; omega
    · have hlt' : ¬ (k : Int) < (n : Int) := by omega
      have hr2 : Row wr (some ⟨w.heap.size, 0, none⟩) n ss := by
        have e : n - k = 0 := by omega
        rw [e, List.replicate_zero, List.append_nil, List.take_of_length_le (by rw [HL.out]; omega)] at ho
        exact row_of_own ho
      clear ho
      have R := hr2
      have RR : Hid (Row wr (some ⟨w.heap.size, 0, none⟩) n ss) := R
      clear R hr2 hr
      go_wp2
      go_ret
      exact ⟨_, rfl, RR.out, hb⟩
end Go.Proofs.Qxb6601647a.Ix
