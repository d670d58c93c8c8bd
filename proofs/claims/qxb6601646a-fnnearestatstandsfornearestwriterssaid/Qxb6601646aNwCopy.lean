import Derived.Test.Qxb6601646aTwMem
namespace Go.Proofs.Qxb6601646a.Nw
open Go.RowKit Go.Proofs.Qxb6601646a.Tw

/-! ### a copy of a row of numbers -/
def zv (l : List Int) : List Value := l.map fun x => Value.int .i64 x
theorem zv_length (l : List Int) : (zv l).length = l.length := by simp [zv]
theorem zv_at (l : List Int) (j : Nat) (h : j < l.length) : (zv l)[j]? = some (.int .i64 (l.getD j 0)) := by
  unfold zv
  rw [List.getElem?_map, List.getElem?_eq_getElem h, List.getD_eq_getElem?_getD, List.getElem?_eq_getElem h]; rfl
theorem zv_one (l : List Int) : ∀ v ∈ zv l, v.oneCell' = true := by
  intro v hv
  unfold zv at hv
  obtain ⟨_, _, rfl⟩ := List.mem_map.1 hv
  rfl
theorem size3 : (Try.prog.info? 3).map (·.size) = some 1 := by kernel_rfl
theorem setRow_arr {w : World} {g : Nat} {cur : Array Value} {t : TypeId} (h : w.heap[g]? = some (.cells cur t (0, 0))) (l : List Value) : Arr (w.setRow g l.toArray) g t l := by
  unfold Arr
  exact setRow_heap w g _ _ t _ h
theorem setRow_grown {w w' : World} {row : Option Nat} (h : w.grownBy w' row) (g : Nat) (hg : w.heap.size ≤ g ∨ some g = row) (cs : Array Value) : w.grownBy (w'.setRow g cs) row :=
  ⟨h.os, h.tape, h.output, by simp [World.setRow]; exact h.size, fun k hk hn => by
    rw [setRow_other w' g k cs (by rcases hg with hg | hg; (· omega); (· intro e; exact hn (by rw [e, hg])))]
    exact h.block k hk hn⟩
theorem copy_ints {w w1 : World} {ad : Addr} {n c : Nat} {l : List Int} {xs : List Value} (hrow : Row w (some ad) n l) (hown : w1.ownsRow w.heap.size 3 1 (.slice (some ⟨w.heap.size, 0, none⟩) n n) n xs) (hgrow : w.grownBy w1 none) :
    ∃ w2, (Builtin.copy_ #[23, 23] 3 #[.slice (some ⟨w.heap.size, 0, none⟩) n n, .slice (some ad) n c]).run Try.prog w1 = .ok (.int .i64 (n : Int)) w2 ∧ Hid (Arr w2 w.heap.size 3 (zv l)) ∧ Hid (w.grownBy w2 none) := by
  obtain ⟨cur, hcur, hsz⟩ : ∃ cur, w1.heap[w.heap.size]? = some (.cells cur 3 (0, 0)) ∧ cur.size = n := by
    rcases hown.2 with ⟨h, _⟩ | ⟨g', cap', cur, h, _, h3, _, _, h6, _⟩
    · cases h
    · cases h
      exact ⟨cur, h3, by omega⟩
  have hl := hrow.1
  have hsrc : ∀ j v, (zv l)[j]? = some v → w1.cell? (ad.add j) = some v := by
    intro j v hj
    have hj' : j < l.length := by
      have := (List.getElem?_eq_some_iff.1 hj).1
      rwa [zv_length] at this
    obtain ⟨b, off, e0, hb, hc⟩ := hrow.at j (by omega)
    injection e0 with e0
    subst e0
    have e : (⟨b, off, none⟩ : Addr).add j = ⟨b, off + j, none⟩ := by unfold Addr.add; split <;> simp_all
    rw [zv_at l j hj'] at hj
    rw [e, World.cell?_of_block (w := w) (hgrow.block b hb (by simp)), hc]
    exact hj
  have hlen : (zv l).length = Nat.min n n := by rw [zv_length, hl]; simp
  have h := run_copy_row (P := Try.prog) w1 23 23 3 3 w.heap.size 0 n n ad n c cur 3 (zv l) Try.underlying23 size3 hcur hlen hsrc (by rw [zv_length, hl, hsz]; omega) (zv_one l)
  have E : cur.toList.take 0 ++ zv l ++ cur.toList.drop (0 + (zv l).length) = zv l := by
    rw [List.drop_eq_nil_of_le (by rw [zv_length, hl, Array.length_toList, hsz]; omega)]
    simp
  rw [E] at h
  refine ⟨_, ?_, setRow_arr hcur (zv l), setRow_grown hgrow _ (.inl (Nat.le_refl _)) _⟩
  rw [h]
  simp [goInt, zv_length, hl]


theorem bel_next {w w1 w2 : World} (h1 : Below w.heap.size w w1) (h2 : Below w1.heap.size w1 w2) : Below w.heap.size w w2 := by
  refine ⟨h2.os.trans h1.os, h2.tape.trans h1.tape, h2.output.trans h1.output, Nat.le_trans h1.size h2.size, fun k hk => ?_⟩
  exact (h2.block k (Nat.lt_of_lt_of_le hk h1.size)).trans (h1.block k hk)
/-- What came in as a slice of numbers. -/
def IsInts (w : World) (a : Option Addr) (n c : Nat) (l : List Int) : Prop := (a = none ∧ n = 0 ∧ c = 0 ∧ l = []) ∨ ∃ ad, a = some ad ∧ Row w (some ad) n l
end Go.Proofs.Qxb6601646a.Nw
