import Derived.Test.Qxb6601704aSoRTop
namespace Go.Proofs.Qxb6601704a.So
open Go.RowKit
open Go.Proofs.Qxb6601704a.Esc (bc bc_length bc_append info5)

/-- ZZSortPrefixes. -/
theorem zz_any (ga N size n : Nat) (L : List (List UInt8)) (w : World) (hb : Blk size L) (hl : L.length = n) (hN : N = n * size) (ha : Arr w ga L.flatten) (hs : 1 ≤ size) (hs2 : size ≤ 65536) (hN2 : N ≤ 1048576) (hn : 1 ≤ n) (hn2 : n ≤ 1048576) :
    Calls Try.prog 14 #[.int .i64 (size : Int), .slice (some ⟨ga, 0, none⟩) N N] w fun e w' => e = .returned (.tuple #[]) ∧ ∃ A, Arr w' ga A.flatten ∧ Blk size A ∧ A.Perm L ∧ A.Pairwise (· ≤ ·) ∧ w.grownBy w' (some ga) := by
  have HN : Hid (N = n * size) := hN
  clear hN
  go_enter Try.func14, Try.ntmps14
  go_wp2_with fail
  refine (sort_any ga N size n L w hb hl HN.out ha hs hs2 hN2 hn hn2).mono ?_
  rintro e w' ⟨rfl, hA⟩
  have HA : Hid _ := hA
  clear hA ha
  go_wp2
  go_end0
  exact ⟨rfl, HA.out⟩

theorem below_of_grown {w w' : World} (h : w.grownBy w' none) : Below w.heap.size w w' := ⟨h.os, h.tape, h.output, h.size, fun k hk => h.block k hk (by simp)⟩
theorem below_of_new {w0 w w' : World} {g : Nat} (hb : Below w0.heap.size w0 w) (h : w.grownBy w' (some g)) (hg : w0.heap.size ≤ g) : Below w0.heap.size w0 w' :=
  hb.trans ⟨h.os, h.tape, h.output, h.size, fun k hk => h.block k (by have := hb.size; omega) (by intro e; injection e with e; omega)⟩

set_option maxHeartbeats 2000000 in
theorem walk_big (s : Int) (a : Option Addr) (n c : Nat) (w : World) (hn : n ≤ maxLen) (h : ¬ n ≤ 1048576 ∨ s < 1 ∨ 65536 < s ∨ n = 0) :
    Calls Try.prog 5 #[.int .i64 s, .slice a n c] w fun e w' => e = .returned (.bool true) ∧ Below w.heap.size w w' := by
  have hb := bytes_any s a n c w hn
  unfold maxLen at hn
  by_cases h1 : n ≤ 1048576
  · rw [decide_eq_true h1] at hb
    by_cases h2 : s < 1
    · go_enter Try.func5, Try.ntmps5
      go_wp2_with (go_at_call 11; refine hb.mono ?_; rintro e w' ⟨rfl, rfl⟩)
      go_ret
      exact ⟨rfl, Below.refl _ _⟩
    by_cases h3 : 65536 < s
    · go_enter Try.func5, Try.ntmps5
      go_wp2_with (go_at_call 11; refine hb.mono ?_; rintro e w' ⟨rfl, rfl⟩)
      go_ret
      exact ⟨rfl, Below.refl _ _⟩
    · have h4 : n = 0 := by omega
      subst h4
      go_enter Try.func5, Try.ntmps5
      go_wp2_with (go_at_call 11; refine hb.mono ?_; rintro e w' ⟨rfl, rfl⟩)
      go_ret
      exact ⟨rfl, Below.refl _ _⟩
  · rw [decide_eq_false h1] at hb
    go_enter Try.func5, Try.ntmps5
    go_wp2_with (go_at_call 11; refine hb.mono ?_; rintro e w' ⟨rfl, rfl⟩)
    go_ret
    exact ⟨rfl, Below.refl _ _⟩

set_option maxHeartbeats 2000000 in
theorem walk_rem (size : Nat) (b off N c : Nat) (l : List UInt8) (w : World) (hs : 1 ≤ size) (hs2 : size ≤ 65536) (hl : l.length = N) (h0 : 0 < N) (hN : N ≤ 1048576) (hb : b < w.heap.size) (hc : ∀ j (h : j < l.length), w.cell? ⟨b, off + j, none⟩ = some (.int .u8 (l[j].toNat : Int))) :
    Calls Try.prog 5 #[.int .i64 (size : Int), .slice (some ⟨b, off, none⟩) N c] w fun e w' => e = .returned (.bool true) ∧ Below w.heap.size w w' := by
  have hbb := bytes_any (size : Int) (some ⟨b, off, none⟩) N c w (by unfold maxLen; omega)
  rw [decide_eq_true hN] at hbb
  have q0 : ((N : Int) == 0) = false := by rw [beq_eq_false_iff_ne]; omega
  have HC : Hid (∀ j (h : j < l.length), w.cell? ⟨b, off + j, none⟩ = some (.int .u8 (l[j].toNat : Int))) := hc
  have HL : Hid (l.length = N) := hl
  clear hc hl
  by_cases hr : (N : Int) % (size : Int) = 0
  · have hr' : ((N : Int) % (size : Int) != 0) = false := by rw [hr]; rfl
    obtain ⟨n, HN⟩ : ∃ n, Hid (N = n * size) := by
      have hr2 : N % size = 0 := by omega
      exact ⟨N / size, by show _ = _; rw [Nat.div_mul_cancel (Nat.dvd_of_mod_eq_zero hr2)]⟩
    clear hr
    obtain ⟨L, hLb, hLl, hLf⟩ := to_blocks size n l (by rw [HL.out]; exact HN.out)
    have hn1 : 1 ≤ n := by
      by_cases e : n = 0
      · have := HN.out; rw [e] at this; omega
      · omega
    have hn2 : n ≤ 1048576 := by
      have := Nat.le_mul_of_pos_right n (show 0 < size by omega)
      have := HN.out
      omega
    go_enter Try.func5, Try.ntmps5
    go_wp2_with fail
    refine hbb.mono ?_
    rintro e w' ⟨rfl, hw⟩
    subst w'
    go_wp2_with fail
    refine (clone_any b off N c l w HL.out HC.out hN hb h0).mono ?_
    rintro e w1 ⟨g1, rfl, hg1, A1, gr1⟩
    have hg1' := A1.lt
    have hc1 : Hid (∀ j (h : j < l.length), w1.cell? ⟨g1, 0 + j, none⟩ = some (.int .u8 (l[j].toNat : Int))) := fun j h => by rw [Nat.zero_add]; exact A1.cell j h
    have bw1 := below_of_grown gr1
    go_wp2_with fail
    refine (clone_any g1 0 N N l w1 HL.out hc1.out hN hg1' h0).mono ?_
    rintro e w2 ⟨g2, rfl, hg2, A2, gr2⟩
    have hg2' := A2.lt
    have A12 := A1.kept gr2 (by simp)
    have bw2 : Below w.heap.size w w2 := bw1.trans ((below_of_grown gr2).mono bw1.size)
    have hA2 : Arr w2 g2 L.flatten := by rw [hLf]; exact A2
    go_wp2_with fail
    refine (merge_any g2 N size n L w2 hLb hLl HN.out hA2 hs hs2 hN hn1 hn2).mono ?_
    rintro e w3 ⟨x, rfl, hx, MA, hMA, hMb, hMp, hMs, gr3⟩
    have hg2n : g1 ≠ g2 := by omega
    have A13 : Arr w3 g1 L.flatten := by rw [hLf]; exact A12.kept gr3 (by intro e; injection e with e; omega)
    have hb1 := bw1.size
    have bw3 : Below w.heap.size w w3 := below_of_new bw2 gr3 (by omega)
    have hxg : x ≠ g1 := by
      rcases hx with e | e
      · omega
      · have := A12.lt; omega
    go_wp2_with fail
    refine (zz_any g1 N size n L w3 hLb hLl HN.out A13 hs hs2 hN hn1 hn2).mono ?_
    rintro e w4 ⟨rfl, SA, hSA, hSb, hSp, hSs, gr4⟩
    have eq : MA = SA := eq_of_sorted hMs hSs (hMp.trans hSp.symm)
    subst eq
    have hM4 : Arr w4 x MA.flatten := hMA.kept gr4 (by intro e; injection e with e; omega)
    have bw4 : Below w.heap.size w w4 := below_of_new bw3 gr4 hg1
    have hlen : MA.flatten.length = N := by rw [flat_len hMb, hMp.length_eq, hLl]; exact HN.out.symm
    have HH : Hid (Arr w4 g1 MA.flatten ∧ Arr w4 x MA.flatten ∧ MA.flatten.length = N ∧ Below w.heap.size w w4) := ⟨hSA, hM4, hlen, bw4⟩
    clear hSA hM4 hlen bw4 hSb hSp hSs gr4 hMA hMb hMp hMs gr3 A13 bw3 A12 hA2 A2 gr2 A1 gr1 hLf hLb
    go_wp2_with fail
    refine (eq_any g1 x N MA.flatten w4 HH.out.1 HH.out.2.1 HH.out.2.2.1 hN).mono ?_
    rintro e w5 ⟨rfl, q, hw⟩
    subst w5
    go_wp2
    go_ret
    exact ⟨rfl, below_drewN HH.out.2.2.2 _⟩
  · have hr' : ((N : Int) % (size : Int) != 0) = true := by rw [bne_iff_ne]; exact hr
    clear hr
    go_enter Try.func5, Try.ntmps5
    go_wp2_with (go_at_call 11; refine hbb.mono ?_; rintro e w' ⟨rfl, rfl⟩)
    go_ret
    exact ⟨rfl, Below.refl _ _⟩
end Go.Proofs.Qxb6601704a.So
