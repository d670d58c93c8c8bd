import Derived.Test.Qxb6601646aTwLowM
namespace Go.Proofs.Qxb6601646a.Tw
open Go.RowKit Go.Proofs.Qxb6601646a.Tj

/-- zzBytes: where it says true, every length is small. -/
def BytesOk (R : List (List Int)) (n m : Nat) (e : Ending) : Prop := ∃ B : Bool, e = .returned (.bool B) ∧ (B = true → n ≤ 1048576 ∧ m ≤ 1048576 ∧ ∀ j, j < n → (R.getD j []).length ≤ 1048576)
theorem bytes_small (a b : Option Addr) (n c m d : Nat) (z : Int) (R : List (List Int)) (w : World) (hr : Mat w a n R) (hn : n ≤ 9223372036854775807) (hm : m ≤ 9223372036854775807) :
    Calls Try.prog 27 #[.slice a n c, .slice b m d, .int .i64 z] w fun e w' => BytesOk R n m e ∧ w' = w := by
  by_cases h1 : (1048576 : Int) < n
  · go_enter Try.func27, Try.ntmps27
    go_wp2
    go_ret
    exact ⟨⟨false, rfl, fun h => by cases h⟩, rfl⟩
  go_enter Try.func27, Try.ntmps27
  go_wp2
  go_loop [7, 8] (fun t i => ∃ (k : Nat) (z : Int), k ≤ n ∧ 0 ≤ z ∧ z ≤ 1048576 ∧ i = .int .i64 k ∧ t = .int .i64 z ∧ Hid (∀ j, j < k → (R.getD j []).length ≤ 1048576)) (fun _ i => n - (intOf i).toNat)
  case atStart => exact ⟨0, n, Nat.zero_le _, by omega, by omega, rfl, by simp, fun j hj => by omega⟩
  case round =>
    obtain ⟨k, z, hk, hz0, hz1, rfl, rfl, HL⟩ := hrel
    by_cases hlt : k < n
    · obtain ⟨b1, off, rfl, hb, a', l', c', hcell, hl', hrow⟩ := hr.at k hlt
      have hlt' : (k : Int) < (n : Int) := by omega
      have HE : Hid ((R.getD k []).length = l') := hrow.1
      clear hr hrow
      by_cases h1 : (1048576 : Int) < l'
      · go_wp2
        go_ret
        exact ⟨⟨false, rfl, fun h => by cases h⟩, rfl⟩
      · have HL' : Hid (∀ j, j < k + 1 → (R.getD j []).length ≤ 1048576) := fun j hj => by
          by_cases e : j = k
          · rw [e, HE.out]; omega
          · exact HL.out j (by omega)
        by_cases h2 : (1048576 : Int) < z + l'
        · go_wp2
          go_ret
          exact ⟨⟨false, rfl, fun h => by cases h⟩, rfl⟩
        · go_wp2
          go_round
          case rel => exact ⟨k + 1, z + l', by omega, by omega, by omega, by go_num, by go_num, HL'⟩
          case measure => simp [intOf]; omega
    · have hlt' : ¬ (k : Int) < (n : Int) := by omega
      clear hr
      by_cases h2 : (1048576 : Int) < m
      · go_wp2
        go_ret
        exact ⟨⟨false, rfl, fun h => by cases h⟩, rfl⟩
      by_cases h3 : (1048576 : Int) < z + m
      · go_wp2
        go_ret
        exact ⟨⟨false, rfl, fun h => by cases h⟩, rfl⟩
      go_wp2
      go_ret
      exact ⟨⟨true, rfl, fun _ => ⟨by omega, by omega, fun j hj => HL.out j (by omega)⟩⟩, rfl⟩

/-- ZZLowestOnCycle. -/
theorem zlow_any (a : Option Addr) (n c : Nat) (b : Option Addr) (m0 d : Nat) (z : Int) (S : List (List Nat)) (w : World) (hr : NMat w a n S) (hn : n ≤ 4096) (hS : ∀ u x, Tj.Edge S u x → x < n) :
    Calls Try.prog 28 #[.slice a n c, .slice b m0 d, .int .i64 z] w fun e w' => (∃ m : Int, e = .returned (.int .i64 m) ∧ Least S m) ∧ Below w.heap.size w w' := by
  have HL : Hid (Calls Try.prog 35 #[.agg #[.slice a n c, .slice b m0 d, .int .i64 z]] w fun e w' => (∃ m : Int, e = .returned (.int .i64 m) ∧ Least S m) ∧ Below w.heap.size w w') := low_any a n c (.slice b m0 d) (.int .i64 z) S w hr hn hS
  clear hr hS
  go_enter Try.func28, Try.ntmps28
  go_wp2_with fail
  refine HL.out.mono ?_
  rintro e w' ⟨⟨m, rfl, h1⟩, h2⟩
  have H1 : Hid (Least S m) := h1
  have H2 : Hid (Below w.heap.size w w') := h2
  clear h1 h2 HL
  go_wp2_with fail
  go_ret
  exact ⟨⟨m, rfl, H1.out⟩, H2.out⟩

/-! ### a copy of a row of numbers -/
def zv (l : List Int) : List Value := l.map fun x => Value.int .i64 x
theorem zv_length (l : List Int) : (zv l).length = l.length := by simp [zv]
theorem zv_at (l : List Int) (j : Nat) (h : j < l.length) : (zv l)[j]? = some (.int .i64 (l.getD j 0)) := by
  unfold zv
  rw [List.getElem?_map, List.getElem?_eq_getElem h, List.getD_eq_getElem?_getD, List.getElem?_eq_getElem h]; rfl
theorem zv_one (l : List Int) : ∀ v ∈ zv l, v.oneCell' = true := by
  intro v hv
  unfold zv at hv
  obtain ⟨_, _, rfl⟩ := List.mem_map.1 hv
  rfl
theorem size3 : (Try.prog.info? 3).map (·.size) = some 1 := by kernel_rfl
theorem setRow_arr {w : World} {g : Nat} {cur : Array Value} {t : TypeId} (h : w.heap[g]? = some (.cells cur t (0, 0))) (l : List Value) : Arr (w.setRow g l.toArray) g t l := by
  unfold Arr
  exact setRow_heap w g _ _ t _ h
theorem setRow_grown {w w' : World} {row : Option Nat} (h : w.grownBy w' row) (g : Nat) (hg : w.heap.size ≤ g ∨ some g = row) (cs : Array Value) : w.grownBy (w'.setRow g cs) row :=
  ⟨h.os, h.tape, h.output, by simp [World.setRow]; exact h.size, fun k hk hn => by
    rw [setRow_other w' g k cs (by rcases hg with hg | hg; (· omega); (· intro e; exact hn (by rw [e, hg])))]
    exact h.block k hk hn⟩
theorem copy_ints {w w1 : World} {ad : Addr} {n c : Nat} {l : List Int} {xs : List Value} (hrow : Row w (some ad) n l) (hown : w1.ownsRow w.heap.size 3 1 (.slice (some ⟨w.heap.size, 0, none⟩) n n) n xs) (hgrow : w.grownBy w1 none) :
    ∃ w2, (Builtin.copy_ #[23, 23] 3 #[.slice (some ⟨w.heap.size, 0, none⟩) n n, .slice (some ad) n c]).run Try.prog w1 = .ok (.int .i64 (n : Int)) w2 ∧ Hid (Arr w2 w.heap.size 3 (zv l)) ∧ Hid (w.grownBy w2 none) := by
  obtain ⟨cur, hcur, hsz⟩ : ∃ cur, w1.heap[w.heap.size]? = some (.cells cur 3 (0, 0)) ∧ cur.size = n := by
    rcases hown.2 with ⟨h, _⟩ | ⟨g', cap', cur, h, _, h3, _, _, h6, _⟩
    · cases h
    · cases h
      exact ⟨cur, h3, by omega⟩
  have hl := hrow.1
  have hsrc : ∀ j v, (zv l)[j]? = some v → w1.cell? (ad.add j) = some v := by
    intro j v hj
    have hj' : j < l.length := by
      have := (List.getElem?_eq_some_iff.1 hj).1
      rwa [zv_length] at this
    obtain ⟨b, off, e0, hb, hc⟩ := hrow.at j (by omega)
    injection e0 with e0
    subst e0
    have e : (⟨b, off, none⟩ : Addr).add j = ⟨b, off + j, none⟩ := by unfold Addr.add; split <;> simp_all
    rw [zv_at l j hj'] at hj
    rw [e, World.cell?_of_block (w := w) (hgrow.block b hb (by simp)), hc]
    exact hj
  have hlen : (zv l).length = Nat.min n n := by rw [zv_length, hl]; simp
  have h := run_copy_row (P := Try.prog) w1 23 23 3 3 w.heap.size 0 n n ad n c cur 3 (zv l) Try.underlying23 size3 hcur hlen hsrc (by rw [zv_length, hl, hsz]; omega) (zv_one l)
  have E : cur.toList.take 0 ++ zv l ++ cur.toList.drop (0 + (zv l).length) = zv l := by
    rw [List.drop_eq_nil_of_le (by rw [zv_length, hl, Array.length_toList, hsz]; omega)]
    simp
  rw [E] at h
  refine ⟨_, ?_, setRow_arr hcur (zv l), setRow_grown hgrow _ (.inl (Nat.le_refl _)) _⟩
  rw [h]
  simp [goInt, zv_length, hl]
end Go.Proofs.Qxb6601646a.Tw
