import Derived.Test.Qxb6601647aIxWalk
namespace Go.Proofs.Qxb6601647a.Ix
open Go.RowKit

theorem less_eq : ∀ (x y : List UInt8), Op.bytesLess x y = decide (x < y)
  | [], [] => by simp [Op.bytesLess]
  | _ :: _, [] => by simp [Op.bytesLess]
  | [], _ :: _ => by simp [Op.bytesLess]
  | a :: x, b :: y => by
    rw [Op.bytesLess, less_eq x y]
    rw [Bool.eq_iff_iff]
    simp [List.cons_lt_cons_iff]

/-- What intersect leaves, both lists set. -/
def res (ss ts : List ByteArray) : List ByteArray := bs (sset (ls (both ss ts)))

theorem res_mem (ss ts : List ByteArray) (x : ByteArray) : x ∈ res ss ts ↔ (x ∈ ss ∧ x ∈ ts) := by
  unfold res
  rw [mem_bs, sset_mem, mem_ls]
  unfold both
  rw [List.mem_filter, Lib.containsS_iff]

theorem getD_mem (ss : List ByteArray) (k : Nat) (h : k < ss.length) : ss.getD k ByteArray.empty ∈ ss := by
  rw [List.getD_eq_getElem?_getD, List.getElem?_eq_getElem h]
  exact List.getElem_mem h

theorem res_up (ss ts : List ByteArray) (k : Nat) (h : k + 1 < (res ss ts).length) :
    Op.bytesLess ((res ss ts).getD k ByteArray.empty).toList ((res ss ts).getD (k + 1) ByteArray.empty).toList = true := by
  rw [less_eq, decide_eq_true_eq, ByteArray.toList_eq, ByteArray.toList_eq]
  have hu := sset_up (ls (both ss ts))
  unfold res at *
  generalize sset (ls (both ss ts)) = l at *
  have hl : k + 1 < l.length := by simpa [bs] using h
  have := List.pairwise_iff_getElem.1 hu k (k + 1) (by omega) hl (by omega)
  simp [bs, hl, show k < l.length from by omega]
  exact this

theorem res_in (ss ts : List ByteArray) (k : Nat) (h : k < (res ss ts).length) :
    Lib.containsS ss ((res ss ts).getD k ByteArray.empty) = true ∧ Lib.containsS ts ((res ss ts).getD k ByteArray.empty) = true := by
  have := (res_mem ss ts _).1 (getD_mem _ k h)
  exact ⟨(Lib.containsS_iff _ _).2 this.1, (Lib.containsS_iff _ _).2 this.2⟩

theorem res_all (ss ts : List ByteArray) (k : Nat) (h : k < ss.length) (hc : Lib.containsS ts (ss.getD k ByteArray.empty) = true) : Lib.containsS (res ss ts) (ss.getD k ByteArray.empty) = true :=
  (Lib.containsS_iff _ _).2 ((res_mem ss ts _).2 ⟨getD_mem _ k h, (Lib.containsS_iff _ _).1 hc⟩)

/-- The prefix: too large, or not. -/
theorem bool_cases {e : Ending} (h : IsBool e) : e = .returned (.bool true) ∨ e = .returned (.bool false) := by
  obtain ⟨B, rfl⟩ := h
  cases B
  · exact .inr rfl
  · exact .inl rfl

set_option maxHeartbeats 2000000 in
/-- Neither list is set. -/
theorem walk_nn (w : World) :
    Calls Try.prog 6 #[.slice none 0 0, .slice none 0 0] w fun e w' => e = .returned (.bool true) ∧ Below w.heap.size w w' := by
  have heq := fun (wx : World) (a : Option Addr) (n c : Nat) => Lib.run_eql_slice_nil (P := Try.prog) wx 26 9 a n c 0 0 Try.underlying26
  have R : Row w none 0 [] := ⟨rfl, .inl rfl⟩
  go_enter Try.func6, Try.ntmps6
  go_wp2_with fail
  refine (bytes_any none none 0 0 0 0 [] [] w R R (by omega) (by omega)).mono ?_
  rintro e w' ⟨hB, rfl⟩
  rcases bool_cases hB with rfl | rfl
  · clear hB
    go_wp2_with fail
    refine (listBytes_any none 0 0 [] _ R (by omega)).mono ?_
    rintro e w' ⟨t1, h1, h2, rfl, rfl⟩
    go_wp2_with fail
    refine (listBytes_any none 0 0 [] _ R (by omega)).mono ?_
    rintro e w' ⟨t2, h3, h4, rfl, rfl⟩
    by_cases hs : (1048576 : Int) < t1 + t2
    · go_wp2
      go_ret
      exact ⟨rfl, Below.refl _ _⟩
    · go_wp2_with (first | (go_at_call 16; refine (clone_nil _).mono ?_; rintro e w' ⟨rfl, rfl⟩) | (go_at_call 17; refine (zz_nil_l _ _ _ _).mono ?_; rintro e w' ⟨rfl, rfl⟩) | (go_at_call 18; refine (same_self none 0 0 [] _ ⟨rfl, .inl rfl⟩ (by omega)).mono ?_; rintro e w' ⟨rfl, q, rfl⟩))
      go_ret
      exact ⟨rfl, below_drewN (Below.refl _ _) _⟩
  · clear hB
    go_wp2
    go_ret
    exact ⟨rfl, Below.refl _ _⟩

set_option maxHeartbeats 2000000 in
/-- The first list is not set, the second is. -/
theorem walk_ns (bd : Addr) (m d : Nat) (ts : List ByteArray) (w : World) (hq : Row w (some bd) m ts) (hm0 : m ≤ 9223372036854775807) :
    Calls Try.prog 6 #[.slice none 0 0, .slice (some bd) m d] w fun e w' => e = .returned (.bool true) ∧ Below w.heap.size w w' := by
  have heq := fun (wx : World) (a : Option Addr) (n c : Nat) => Lib.run_eql_slice_nil (P := Try.prog) wx 26 9 a n c 0 0 Try.underlying26
  have R : Row w none 0 [] := ⟨rfl, .inl rfl⟩
  go_enter Try.func6, Try.ntmps6
  go_wp2_with fail
  refine (bytes_any none (some bd) 0 0 m d [] ts w R hq (by omega) (by omega)).mono ?_
  rintro e w' ⟨hB, hw⟩
  subst w'
  rcases bool_cases hB with rfl | rfl
  case inr =>
    clear hB
    go_wp2
    go_ret
    exact ⟨rfl, Below.refl _ _⟩
  clear hB
  go_wp2_with fail
  refine (listBytes_any none 0 0 [] _ R (by omega)).mono ?_
  rintro e w' ⟨t1, h1, h2, rfl, hw⟩
  subst w'
  go_wp2_with fail
  refine (listBytes_any (some bd) m d ts _ hq (by omega)).mono ?_
  rintro e w' ⟨t2, h3, h4, rfl, hw⟩
  subst w'
  by_cases hs : (1048576 : Int) < t1 + t2
  · go_wp2
    go_ret
    exact ⟨rfl, Below.refl _ _⟩
  by_cases hm : (4096 : Int) < m
  · go_wp2
    go_ret
    exact ⟨rfl, Below.refl _ _⟩
  go_wp2_with fail
  refine (clone_nil _).mono ?_
  rintro e w' ⟨rfl, hw⟩
  subst w'
  go_wp2_with fail
  refine (clone_any bd m d ts _ hq (by omega)).mono ?_
  rintro e w1 ⟨g, rfl, hrow, hbel⟩
  go_wp2_with fail
  refine (zz_nil_l _ _ _ _).mono ?_
  rintro e w' ⟨rfl, hw⟩
  subst w'
  go_wp2_with fail
  refine (same_self _ _ _ ts _ hrow (by omega)).mono ?_
  rintro e w' ⟨rfl, q, hw⟩
  subst w'
  go_wp2
  go_ret
  exact ⟨rfl, below_drewN hbel _⟩

set_option maxHeartbeats 2000000 in
/-- The first list is set, the second is not. -/
theorem walk_sn (ad : Addr) (n c : Nat) (ss : List ByteArray) (w : World) (hr : Row w (some ad) n ss) (hn0 : n ≤ 9223372036854775807) :
    Calls Try.prog 6 #[.slice (some ad) n c, .slice none 0 0] w fun e w' => e = .returned (.bool true) ∧ Below w.heap.size w w' := by
  have heq := fun (wx : World) (a : Option Addr) (n c : Nat) => Lib.run_eql_slice_nil (P := Try.prog) wx 26 9 a n c 0 0 Try.underlying26
  have R : Row w none 0 [] := ⟨rfl, .inl rfl⟩
  go_enter Try.func6, Try.ntmps6
  go_wp2_with fail
  refine (bytes_any (some ad) none n c 0 0 ss [] w hr R (by omega) (by omega)).mono ?_
  rintro e w' ⟨hB, hw⟩
  subst w'
  rcases bool_cases hB with rfl | rfl
  case inr =>
    clear hB
    go_wp2
    go_ret
    exact ⟨rfl, Below.refl _ _⟩
  clear hB
  go_wp2_with fail
  refine (listBytes_any (some ad) n c ss _ hr (by omega)).mono ?_
  rintro e w' ⟨t1, h1, h2, rfl, hw⟩
  subst w'
  go_wp2_with fail
  refine (listBytes_any none 0 0 [] _ R (by omega)).mono ?_
  rintro e w' ⟨t2, h3, h4, rfl, hw⟩
  subst w'
  by_cases hs : (1048576 : Int) < t1 + t2
  · go_wp2
    go_ret
    exact ⟨rfl, Below.refl _ _⟩
  by_cases hn : (4096 : Int) < n
  · go_wp2
    go_ret
    exact ⟨rfl, Below.refl _ _⟩
  go_wp2_with fail
  refine (clone_any ad n c ss _ hr (by omega)).mono ?_
  rintro e w1 ⟨g, rfl, hrow, hbel⟩
  go_wp2_with fail
  refine (clone_nil _).mono ?_
  rintro e w' ⟨rfl, hw⟩
  subst w'
  go_wp2_with fail
  refine (zz_nil_r _ _ _ _).mono ?_
  rintro e w' ⟨rfl, hw⟩
  subst w'
  go_wp2_with fail
  refine (same_self _ _ _ ss _ hrow (by omega)).mono ?_
  rintro e w' ⟨rfl, q, hw⟩
  subst w'
  go_wp2
  go_ret
  exact ⟨rfl, below_drewN hbel _⟩

theorem Row.drewN {w : World} {a : Option Addr} {n : Nat} {ss : List ByteArray} (h : Row w a n ss) (q : Nat) : Row (w.drewN q) a n ss := by
  refine ⟨h.1, ?_⟩
  rcases h.2 with h | ⟨b, off, h1, h2, h3⟩
  · exact .inl h
  · exact .inr ⟨b, off, h1, by simp; exact h2, fun j hj => by simp [h3 j hj]⟩

set_option maxHeartbeats 4000000 in
/-- Both lists are set. -/
theorem walk_ss (ad bd : Addr) (n c m d : Nat) (ss ts : List ByteArray) (w : World) (hr : Row w (some ad) n ss) (hq : Row w (some bd) m ts) (hn0 : n ≤ 9223372036854775807) (hm0 : m ≤ 9223372036854775807) :
    Calls Try.prog 6 #[.slice (some ad) n c, .slice (some bd) m d] w fun e w' => e = .returned (.bool true) ∧ Below w.heap.size w w' := by
  have heq := fun (wx : World) (a : Option Addr) (n c : Nat) => Lib.run_eql_slice_nil (P := Try.prog) wx 26 9 a n c 0 0 Try.underlying26
  go_enter Try.func6, Try.ntmps6
  go_wp2_with fail
  refine (bytes_any (some ad) (some bd) n c m d ss ts w hr hq (by omega) (by omega)).mono ?_
  rintro e w' ⟨hB, hw⟩
  subst w'
  rcases bool_cases hB with rfl | rfl
  case inr =>
    clear hB
    go_wp2
    go_ret
    exact ⟨rfl, Below.refl _ _⟩
  clear hB
  go_wp2_with fail
  refine (listBytes_any (some ad) n c ss _ hr (by omega)).mono ?_
  rintro e w' ⟨t1, h1, h2, rfl, hw⟩
  subst w'
  go_wp2_with fail
  refine (listBytes_any (some bd) m d ts _ hq (by omega)).mono ?_
  rintro e w' ⟨t2, h3, h4, rfl, hw⟩
  subst w'
  by_cases hs : (1048576 : Int) < t1 + t2
  · go_wp2
    go_ret
    exact ⟨rfl, Below.refl _ _⟩
  by_cases hn : (4096 : Int) < n
  · go_wp2
    go_ret
    exact ⟨rfl, Below.refl _ _⟩
  by_cases hm : (4096 : Int) < m
  · go_wp2
    go_ret
    exact ⟨rfl, Below.refl _ _⟩
  go_wp2_with fail
  refine (clone_any ad n c ss _ hr (by omega)).mono ?_
  rintro e w1 ⟨ga, rfl, hra, hb1⟩
  have hq1 := hq.keep hb1
  clear hr hq
  go_wp2_with fail
  refine (clone_any bd m d ts _ hq1 (by omega)).mono ?_
  rintro e w2 ⟨gb, rfl, hrb, hb2⟩
  have hra2 := hra.keep hb2
  have hb02 : Below w.heap.size w w2 := hb1.trans (hb2.mono hb1.size)
  clear hra hq1 hb1 hb2
  go_wp2_with fail
  refine (zz_any _ _ _ _ _ _ ss ts _ hra2 hrb (by omega) (by omega)).mono ?_
  rintro e w3 ⟨g, r, cap, hr4, rfl, hrow, hb3⟩
  have hra3 := hra2.keep hb3
  have hrb3 := hrb.keep hb3
  have hb03 : Below w.heap.size w w3 := hb02.trans (hb3.mono hb02.size)
  clear hra2 hrb hb02 hb3
  have FU : Hid (∀ k, k + 1 < r → Op.bytesLess ((res ss ts).getD k ByteArray.empty).toList ((res ss ts).getD (k + 1) ByteArray.empty).toList = true) := fun k hk => res_up ss ts k (by rw [show (res ss ts).length = r from hrow.1]; exact hk)
  have FI : Hid (∀ k, k < r → Lib.containsS ss ((res ss ts).getD k ByteArray.empty) = true ∧ Lib.containsS ts ((res ss ts).getD k ByteArray.empty) = true) := fun k hk => res_in ss ts k (by rw [show (res ss ts).length = r from hrow.1]; exact hk)
  have FA : Hid (∀ k, k < n → Lib.containsS ts (ss.getD k ByteArray.empty) = true → Lib.containsS (res ss ts) (ss.getD k ByteArray.empty) = true) := fun k hk => res_all ss ts k (by rw [hra3.1]; exact hk)
  have hrow' : Row w3 (some ⟨g, 0, none⟩) r (res ss ts) := hrow
  clear hrow
  generalize res ss ts = rs at *
  go_wp2
  go_loopw [6] (fun i wr => ∃ k q : Nat, k ≤ r ∧ i = .int .i64 (k + 1) ∧ wr = w3.drewN q) (fun i _ => r + 1 - (intOf i).toNat)
  case atStart => exact ⟨0, 0, Nat.zero_le _, rfl, rfl⟩
  case round =>
    obtain ⟨k, q, hk, rfl, rfl⟩ := hrel
    by_cases hlt : k + 1 < r
    · obtain ⟨b, off, hea, hbl, hcell⟩ := hrow'.at k (by omega)
      obtain ⟨b', off', hea', hbl', hcell'⟩ := hrow'.at (k + 1) (by omega)
      cases hea
      cases hea'
      rw [Nat.zero_add] at hcell hcell'
      have hless := FU.out k hlt
      generalize rs.getD k ByteArray.empty = x at *
      generalize rs.getD (k + 1) ByteArray.empty = y at *
      have hlt' : (k : Int) + 1 < (r : Int) := by omega
      have HH : Hid (Row w3 (some ⟨g, 0, none⟩) r rs ∧ Row w3 (some ⟨ga, 0, none⟩) n ss ∧ Row w3 (some ⟨gb, 0, none⟩) m ts) := ⟨hrow', hra3, hrb3⟩
      clear hrow' hra3 hrb3
      go_wp2
      go_quiet (fail)
      go_wp2
      go_roundw
      case rel => exact ⟨k + 1, _, by omega, by go_num, rfl⟩
      case measure => simp [intOf]; omega
    · have hlt' : ¬ (k : Int) + 1 < (r : Int) := by omega
      have RR : Hid (Row (w3.drewN q) (some ⟨g, 0, none⟩) r rs) := hrow'.drewN q
      have RA : Hid (Row (w3.drewN q) (some ⟨ga, 0, none⟩) n ss) := hra3.drewN q
      have RB : Hid (Row (w3.drewN q) (some ⟨gb, 0, none⟩) m ts) := hrb3.drewN q
      have HB : Hid (Below w.heap.size w (w3.drewN q)) := below_drewN hb03 q
      have H3 : Hid (Row w3 (some ⟨g, 0, none⟩) r rs) := hrow'
      have A3 : Hid (Row w3 (some ⟨ga, 0, none⟩) n ss) := hra3
      clear hrow' hra3 hrb3 hb03 hlt
      go_wp2
      go_loop [7] (fun i => ∃ k : Nat, k ≤ r ∧ i = .int .i64 k) (fun i => r - (intOf i).toNat)
      case atStart => exact ⟨0, Nat.zero_le _, rfl⟩
      case round =>
        obtain ⟨k2, hk2, rfl⟩ := hrel
        by_cases hlt2 : k2 < r
        · obtain ⟨b, off, hea, hbl, hcell⟩ := H3.out.at k2 hlt2
          cases hea
          rw [Nat.zero_add] at hcell
          have hin := FI.out k2 hlt2
          generalize rs.getD k2 ByteArray.empty = x at *
          have hlt2' : (k2 : Int) < (r : Int) := by omega
          have CA : Hid (Calls Try.prog 19 #[.slice (some ⟨ga, 0, none⟩) n n, .string x] (w3.drewN q) fun e w' => e = .returned (.bool true) ∧ w3.drewN q = w') := by
            have := contains_any (some ⟨ga, 0, none⟩) n n ss x _ RA.out (by omega)
            rw [hin.1] at this
            exact this.mono fun e w' h => ⟨h.1, h.2.symm⟩
          have CB : Hid (Calls Try.prog 19 #[.slice (some ⟨gb, 0, none⟩) m m, .string x] (w3.drewN q) fun e w' => e = .returned (.bool true) ∧ w3.drewN q = w') := by
            have := contains_any (some ⟨gb, 0, none⟩) m m ts x _ RB.out (by omega)
            rw [hin.2] at this
            exact this.mono fun e w' h => ⟨h.1, h.2.symm⟩
          clear hin
          go_wp2_with fail
          refine CA.out.mono ?_
          rintro e w' ⟨rfl, rfl⟩
          go_wp2_with fail
          refine CB.out.mono ?_
          rintro e w' ⟨rfl, rfl⟩
          go_wp2
          go_round
          case rel => exact ⟨k2 + 1, by omega, by go_num⟩
          case measure => simp [intOf]; omega
        · have hlt2' : ¬ (k2 : Int) < (r : Int) := by omega
          go_wp2
          go_loop [8] (fun i => ∃ k : Nat, k ≤ n ∧ i = .int .i64 k) (fun i => n - (intOf i).toNat)
          case atStart => exact ⟨0, Nat.zero_le _, rfl⟩
          case round =>
            obtain ⟨k3, hk3, rfl⟩ := hrel
            by_cases hlt3 : k3 < n
            · obtain ⟨b, off, hea, hbl, hcell⟩ := A3.out.at k3 hlt3
              cases hea
              rw [Nat.zero_add] at hcell
              have hal := FA.out k3 hlt3
              generalize ss.getD k3 ByteArray.empty = x at *
              have hlt3' : (k3 : Int) < (n : Int) := by omega
              by_cases hc : Lib.containsS ts x = true
              · have CB : Hid (Calls Try.prog 19 #[.slice (some ⟨gb, 0, none⟩) m m, .string x] (w3.drewN q) fun e w' => e = .returned (.bool true) ∧ w3.drewN q = w') := by
                  have := contains_any (some ⟨gb, 0, none⟩) m m ts x _ RB.out (by omega)
                  rw [hc] at this
                  exact this.mono fun e w' h => ⟨h.1, h.2.symm⟩
                have CR : Hid (Calls Try.prog 19 #[.slice (some ⟨g, 0, none⟩) r cap, .string x] (w3.drewN q) fun e w' => e = .returned (.bool true) ∧ w3.drewN q = w') := by
                  have := contains_any (some ⟨g, 0, none⟩) r cap rs x _ RR.out (by omega)
                  rw [hal hc] at this
                  exact this.mono fun e w' h => ⟨h.1, h.2.symm⟩
                clear hal hc
                go_wp2_with fail
                refine CB.out.mono ?_
                rintro e w' ⟨rfl, rfl⟩
                go_wp2_with fail
                refine CR.out.mono ?_
                rintro e w' ⟨rfl, rfl⟩
                go_wp2
                go_round
                case rel => exact ⟨k3 + 1, by omega, by go_num⟩
                case measure => simp [intOf]; omega
              · have hc' : Lib.containsS ts x = false := by simpa using hc
                have CB : Hid (Calls Try.prog 19 #[.slice (some ⟨gb, 0, none⟩) m m, .string x] (w3.drewN q) fun e w' => e = .returned (.bool false) ∧ w3.drewN q = w') := by
                  have := contains_any (some ⟨gb, 0, none⟩) m m ts x _ RB.out (by omega)
                  rw [hc'] at this
                  exact this.mono fun e w' h => ⟨h.1, h.2.symm⟩
                clear hal hc hc'
                go_wp2_with fail
                refine CB.out.mono ?_
                rintro e w' ⟨rfl, rfl⟩
                go_wp2
                go_round
                case rel => exact ⟨k3 + 1, by omega, by go_num⟩
                case measure => simp [intOf]; omega
            · have hlt3' : ¬ (k3 : Int) < (n : Int) := by omega
              go_wp2
              go_ret
              exact ⟨rfl, HB.out⟩
end Go.Proofs.Qxb6601647a.Ix
