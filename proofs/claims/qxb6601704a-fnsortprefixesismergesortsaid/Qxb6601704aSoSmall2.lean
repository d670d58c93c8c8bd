import Derived.Test.Qxb6601704aSoSmall
import Derived.Test.Qxb6601704aEscWalk
import Derived.Handy
namespace Go.Proofs.Qxb6601704a.So
open Go.RowKit
open Go.Proofs.Qxb6601704a.Esc (bc bc_length bc_append info5)

theorem size5 : (Try.prog.info? 5).map (·.size) = some 1 := by kernel_rfl

/-- zzBytes_FnSortPrefixesIsMergeSort. -/
theorem bytes_any (s : Int) (a : Option Addr) (n c : Nat) (w : World) (hn : n ≤ maxLen) :
    Calls Try.prog 11 #[.int .i64 s, .slice a n c] w fun e w' => e = .returned (.bool (decide (n ≤ 1048576))) ∧ w' = w := by
  unfold maxLen at hn
  by_cases h : (1048576 : Int) < n
  · go_enter Try.func11, Try.ntmps11
    go_wp2
    go_ret
    exact ⟨ret_bool (decide_eq_false (by omega)).symm, rfl⟩
  · go_enter Try.func11, Try.ntmps11
    go_wp2
    go_ret
    exact ⟨ret_bool (decide_eq_true (by omega)).symm, rfl⟩

theorem setRow_arr {w : World} {g : Nat} {cur : Array Value} (h : w.heap[g]? = some (.cells cur 5 (0, 0))) (l : List UInt8) : Arr (w.setRow g (bc l).toArray) g l := by
  unfold Arr
  exact setRow_heap w g _ _ 5 _ h
theorem setRow_grown {w w' : World} {row : Option Nat} (h : w.grownBy w' row) (g : Nat) (hg : w.heap.size ≤ g ∨ some g = row) (cs : Array Value) : w.grownBy (w'.setRow g cs) row :=
  ⟨h.os, h.tape, h.output, by simp [World.setRow]; exact h.size, fun k hk hn => by
    rw [setRow_other w' g k cs (by rcases hg with hg | hg; (· omega); (· intro e; exact hn (by rw [e, hg])))]
    exact h.block k hk hn⟩
theorem bc_one (l : List UInt8) : ∀ v ∈ bc l, v.oneCell' = true := by
  intro v hv
  unfold bc at hv
  obtain ⟨_, _, rfl⟩ := List.mem_map.1 hv
  rfl

set_option maxHeartbeats 1000000 in
/-- zlCloneBytes at a slice that has an element. -/
theorem clone_any (b off n c : Nat) (l : List UInt8) (w : World) (hl : l.length = n) (hc : ∀ j (h : j < l.length), w.cell? ⟨b, off + j, none⟩ = some (.int .u8 (l[j].toNat : Int))) (hn : n ≤ 1048576) (hb : b < w.heap.size) (h0 : 0 < n) :
    Calls Try.prog 12 #[.slice (some ⟨b, off, none⟩) n c] w fun e w' => ∃ g, e = .returned (.slice (some ⟨g, 0, none⟩) n n) ∧ w.heap.size ≤ g ∧ Arr w' g l ∧ w.grownBy w' none := by
  obtain ⟨i0, hi, hz0, hz1, hz2⟩ := info_parts info5
  have heq := fun (wx : World) (a : Option Addr) (n c : Nat) => Lib.run_eql_slice_nil (P := Try.prog) wx 27 5 a n c 0 0 Try.underlying27
  have HL : Hid (l.length = n) := hl
  have HC : Hid (∀ j (h : j < l.length), w.cell? ⟨b, off + j, none⟩ = some (.int .u8 (l[j].toNat : Int))) := hc
  clear hl hc
  go_enter Try.func12, Try.ntmps12
  go_wp2_with (at_make; refine wpList_make_full _ rfl _ _ 27 rfl w.heap.size 5 i0 (.int .u8 0) 1 Try.underlying27 hi hz0 hz1 _ _ _ _ n rfl rfl rfl rfl (by rw [hz2]; omega) (by unfold maxLen; omega) (by omega) ?_; intro w1 hown1 hgrow1)
  obtain ⟨cur, hcur, hsz⟩ : ∃ cur, w1.heap[w.heap.size]? = some (.cells cur 5 (0, 0)) ∧ cur.size = n := by
    rcases hown1.2 with ⟨h, _⟩ | ⟨g', cap', cur, h, _, h3, _, _, h6, _⟩
    · cases h
    · cases h
      exact ⟨cur, h3, by omega⟩
  clear hown1
  have hsrc : ∀ j v, (bc l)[j]? = some v → w1.cell? ((⟨b, off, none⟩ : Addr).add j) = some v := by
    intro j v hj
    have hj' : j < l.length := by
      have := (List.getElem?_eq_some_iff.1 hj).1
      rwa [bc_length] at this
    have e : (⟨b, off, none⟩ : Addr).add j = ⟨b, off + j, none⟩ := by unfold Addr.add; split <;> simp_all
    rw [bc_at l j hj'] at hj
    rw [e, World.cell?_of_block (w := w) (hgrow1.block b hb (by simp)), HC.out j hj']
    exact hj
  obtain ⟨w2, hcp, A, G⟩ : ∃ w2, (Builtin.copy_ #[27, 27] 3 #[.slice (some ⟨w.heap.size, 0, none⟩) n n, .slice (some ⟨b, off, none⟩) n c]).run Try.prog w1 = .ok (.int .i64 (n : Int)) w2 ∧ Hid (Arr w2 w.heap.size l) ∧ Hid (w.grownBy w2 none) := by
    have hlen : (bc l).length = Nat.min n n := by rw [bc_length, HL.out]; simp
    have h := run_copy_row (P := Try.prog) w1 27 27 3 5 w.heap.size 0 n n ⟨b, off, none⟩ n c cur 5 (bc l) Try.underlying27 size5 hcur hlen hsrc (by rw [bc_length, HL.out, hsz]; omega) (bc_one l)
    have E : cur.toList.take 0 ++ bc l ++ cur.toList.drop (0 + (bc l).length) = bc l := by
      rw [List.drop_eq_nil_of_le (by rw [bc_length, HL.out, Array.length_toList, hsz]; omega)]
      simp
    rw [E] at h
    refine ⟨_, ?_, setRow_arr hcur l, setRow_grown hgrow1 _ (.inl (Nat.le_refl _)) _⟩
    rw [h]
    simp [goInt, bc_length, HL.out]
  clear hsrc hcur hsz hgrow1
  rw [hcp]
  clear hcp
  go_wp2
  go_ret
  exact ⟨_, rfl, Nat.le_refl _, A.out, G.out⟩

set_option maxHeartbeats 1000000 in
/-- zlEqualBytes at two arrays of the same bytes. -/
theorem eq_any (g h n : Nat) (l : List UInt8) (w : World) (ha : Arr w g l) (hb : Arr w h l) (hl : l.length = n) (hn : n ≤ 1048576) :
    Calls Try.prog 15 #[.slice (some ⟨g, 0, none⟩) n n, .slice (some ⟨h, 0, none⟩) n n] w fun e w' => e = .returned (.bool true) ∧ ∃ q, w' = w.drewN q := by
  have HL : Hid (l.length = n) := hl
  clear hl
  go_enter Try.func15, Try.ntmps15
  go_wp2
  go_loopw [5] (fun t wr => ∃ k q : Nat, k ≤ n ∧ t = .int .i64 k ∧ wr = w.drewN q) (fun t _ => n - (intOf t).toNat)
  case atStart => exact ⟨0, 0, Nat.zero_le _, rfl, rfl⟩
  case round =>
    obtain ⟨k, q, hk, rfl, rfl⟩ := hrel
    by_cases hlt : k < n
    · have hlt' : (k : Int) < (n : Int) := by omega
      have h0 : (0 : Int) ≤ (k : Int) := by omega
      have hkl : k < l.length := by rw [HL.out]; exact hlt
      have c1 := ha.cell k hkl
      have c2 := hb.cell k hkl
      generalize l[k] = x at *
      have hx : ((x.toNat : Int) != (x.toNat : Int)) = false := by simp
      have HAB : Hid (Arr w g l ∧ Arr w h l) := ⟨ha, hb⟩
      clear ha hb
      go_wp2
      go_quiet (fail)
      go_wp2
      go_roundw
      case rel => exact ⟨k + 1, _, by omega, by go_num, rfl⟩
      case measure => simp [intOf]; omega
    · have hlt' : ¬ (k : Int) < (n : Int) := by omega
      go_wp2
      go_ret
      exact ⟨rfl, _, rfl⟩

/-- (prefixGroup).count. -/
theorem count_any (s : Int) (a : Option Addr) (n c : Nat) (w : World) (hs : 1 ≤ s) (hs2 : s ≤ 65536) (hn : n ≤ 1048576) :
    Calls Try.prog 19 #[.agg #[.int .i64 s, .slice a n c]] w fun e w' => e = .returned (.int .i64 ((n : Int) / s)) ∧ w' = w.alloc (.cells #[.int .i64 s, .slice a n c] 35) := by
  have E : Hid (wrap64 ((n : Int) / s) = (n : Int) / s) := by
    have e0 : 0 ≤ (n : Int) / s := Int.ediv_nonneg (by omega) (by omega)
    have e2 : (n : Int) / s ≤ n := Int.ediv_le_self s (by omega)
    show _ = _
    generalize (n : Int) / s = d at *
    go_arith
  go_enter Try.func19, Try.ntmps19
  go_wp2
  go_ret
  exact ⟨ret_int E.out, rfl⟩
end Go.Proofs.Qxb6601704a.So
