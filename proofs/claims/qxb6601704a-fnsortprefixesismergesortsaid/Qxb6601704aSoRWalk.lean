import Derived.Test.Qxb6601704aSoMTop
namespace Go.Proofs.Qxb6601704a.So
open Go.RowKit
open Go.Proofs.Qxb6601704a.Esc (bc bc_length bc_append info5)

/-- Numbers as cells. -/
def ic (c : List Int) : List Value := c.map (Value.int .i64)
theorem ic_length (c : List Int) : (ic c).length = c.length := by simp [ic]
theorem ic_at (c : List Int) (j : Nat) (h : j < c.length) : (ic c)[j]? = some (.int .i64 c[j]) := by
  simp [ic, List.getElem?_eq_getElem h]
/-- The block g is an array of 256 ints. -/
def IArr (w : World) (g : Nat) (c : List Int) : Prop := w.heap[g]? = some (.cells (ic c).toArray 37 (0, 0))
theorem IArr.cell {w : World} {g : Nat} {c : List Int} (h : IArr w g c) (j : Nat) (hj : j < c.length) : w.cell? ⟨g, j, none⟩ = some (.int .i64 c[j]) := by
  rw [cell_of_row w g j _ 37 _ h, List.getElem?_toArray, ic_at c j hj]
theorem IArr.free {w : World} {g : Nat} {c : List Int} (h : IArr w g c) (j : Nat) : w.frozen? ⟨g, j, none⟩ = false := frozen_of_row w g j _ 37 h
theorem IArr.lt {w : World} {g : Nat} {c : List Int} (h : IArr w g c) : g < w.heap.size := (Array.getElem?_eq_some_iff.1 h).1
theorem IArr.set {w : World} {g : Nat} {c : List Int} (h : IArr w g c) (j : Nat) (v : Int) : IArr (w.setCell ⟨g, j, none⟩ (.int .i64 v)) g (c.set j v) := by
  unfold IArr
  rw [heap_setCell_same w g j _ 37 _ h]
  congr 2
  unfold ic
  simp
theorem IArr.other {w : World} {g : Nat} {c : List Int} (h : IArr w g c) (a : Addr) (v : Value) (hn : g ≠ a.block) : IArr (w.setCell a v) g c := by
  unfold IArr
  rw [heap_setCell_other w a g v hn]; exact h
theorem IArr.alloc {w : World} {g : Nat} {c : List Int} (h : IArr w g c) (o : Obj) : IArr (w.alloc o) g c := by
  unfold IArr
  rw [Below.heap_alloc w o g h.lt]; exact h
theorem IArr.drewN {w : World} {g : Nat} {c : List Int} (h : IArr w g c) (q : Nat) : IArr (w.drewN q) g c := by
  unfold IArr; simp; exact h
theorem IArr.row {w : World} {g y : Nat} {c : List Int} {cs : Array Value} (h : IArr w g c) (hn : g ≠ y) : IArr (w.setRow y cs) g c := by
  unfold IArr
  rw [setRow_other w y g cs hn]; exact h

/-- 256 zeros. -/
def zeros : List Int := List.replicate 256 0
def zeroCells : Array Value := (ic zeros).toArray
theorem alloc_run (w : World) (old : Value) : (Instr.alloc 37 true old).run Try.prog w = .ok (.pointer (some ⟨w.heap.size, 0, none⟩)) (w.alloc (.cells zeroCells 37)) := by
  have hz : ∀ w, (zeroValue 37).run Try.prog w = .ok (.agg zeroCells) w := by
    intro w
    kernel_rfl
  unfold Instr.alloc
  simp only [Sem.run_bind, hz, Result.andThen_ok]
  rfl
theorem wpList_alloc37 {w : World} {ops : Array Oper} {rest : List Oper} {o : Oper} {a : Act} {Q : Exit → Act → World → Prop} (hg : o.guard = none) (ho : o.op = .alloc 37)
    (h : wpList Try.prog ops Q rest (a.put o.dst (.pointer (some ⟨w.heap.size, 0, none⟩))) (w.alloc (.cells zeroCells 37))) : wpList Try.prog ops Q (o :: rest) a w := by
  refine wpList_plain hg fun K hK => ?_
  unfold Oper.wp
  simp only [execOp, ho, Sem.run_bind, alloc_run, Result.andThen_ok, Sem.run_pure]
  exact hK _ _ h

/-! ### the two tables -/
/-- A table of 256 numbers. -/
def tab (f : Nat → Int) : List Int := (List.range 256).map f
theorem tab_len (f : Nat → Int) : (tab f).length = 256 := by simp [tab]
theorem tab_at (f : Nat → Int) (b : Nat) (h : b < (tab f).length) : (tab f)[b] = f b := by simp [tab]
theorem tab_set (f g : Nat → Int) (k : Nat) (v : Int) (hk : g k = v) (ho : ∀ b, b ≠ k → g b = f b) : (tab f).set k v = tab g := by
  apply List.ext_getElem
  · simp [tab]
  · intro b h1 h2
    rw [List.getElem_set, tab_at g b h2]
    by_cases e : k = b
    · subst e; rw [if_pos rfl, hk]
    · rw [if_neg e, ho b (fun h => e h.symm)]
      simp [tab]
theorem tab_congr (f g : Nat → Int) (h : ∀ b, b < 256 → f b = g b) : tab f = tab g := by
  unfold tab
  apply List.map_congr_left
  intro b hb
  exact h b (List.mem_range.1 hb)
theorem tab_zero : tab (fun _ => 0) = zeros := by
  unfold tab zeros
  rw [List.map_const']
  simp

/-- The counts of the first t blocks. -/
def cf (p : Nat) (A : List (List UInt8)) (t : Nat) (b : Nat) : Int := (cnt p b (A.take t) : Nat)
theorem cf_zero (p : Nat) (A : List (List UInt8)) : tab (cf p A 0) = zeros := by
  rw [← tab_zero]
  apply tab_congr
  intro b _
  simp [cf, cnt, fil]
theorem cf_step (p : Nat) (A : List (List UInt8)) (t : Nat) (ht : t < A.length) : (tab (cf p A t)).set (key p A[t]) (cf p A t (key p A[t]) + 1) = tab (cf p A (t + 1)) := by
  apply tab_set
  · unfold cf; rw [cnt_snoc p _ t A ht, if_pos rfl]; omega
  · intro b hb
    unfold cf; rw [cnt_snoc p b t A ht, if_neg (fun h => hb h.symm)]; omega
theorem cf_bd (p : Nat) (A : List (List UInt8)) (t b : Nat) : 0 ≤ cf p A t b ∧ cf p A t b ≤ A.length := by
  unfold cf
  have h1 := cnt_le p b t A
  have h2 := cnt_len p b A
  omega
theorem cf_all (p : Nat) (A : List (List UInt8)) (t b : Nat) (h : A.length ≤ t) : cf p A t b = (cnt p b A : Nat) := by
  unfold cf; rw [List.take_of_length_le h]

/-- Where each bucket begins, up to m. -/
def nf (size p : Nat) (A : List (List UInt8)) (m : Nat) (b : Nat) : Int := if b < m then ((less p b A * size : Nat) : Int) else 0
theorem nf_one (size p : Nat) (A : List (List UInt8)) : tab (nf size p A 1) = zeros := by
  rw [← tab_zero]
  apply tab_congr
  intro b _
  unfold nf
  split
  · have : b = 0 := by omega
    subst this; simp [less_zero]
  · rfl
theorem nf_step (size p : Nat) (A : List (List UInt8)) (m : Nat) : (tab (nf size p A (m + 1))).set (m + 1) (nf size p A (m + 1) m + cf p A A.length m * size) = tab (nf size p A (m + 2)) := by
  apply tab_set
  · unfold nf
    rw [if_pos (by omega), if_pos (by omega), cf_all p A _ _ (Nat.le_refl _), less_succ, Nat.add_mul]
    simp
  · intro b hb
    unfold nf
    by_cases h : b < m + 1
    · rw [if_pos h, if_pos (by omega)]
    · rw [if_neg h, if_neg (by omega)]
theorem nf_bd (size p : Nat) (A : List (List UInt8)) (m b : Nat) : 0 ≤ nf size p A m b ∧ nf size p A m b ≤ ((A.length * size : Nat) : Int) := by
  unfold nf
  split
  · have := Nat.mul_le_mul_right size (less_len p b A)
    omega
  · omega

/-- Where the next block of each bucket goes, t blocks laid. -/
def gf (size p : Nat) (A : List (List UInt8)) (t : Nat) (b : Nat) : Int := (((less p b A + cnt p b (A.take t)) * size : Nat) : Int)
theorem gf_zero (size p : Nat) (A : List (List UInt8)) : tab (nf size p A 256) = tab (gf size p A 0) := by
  apply tab_congr
  intro b hb
  unfold nf gf
  rw [if_pos hb]
  simp [cnt, fil]
theorem gf_step (size p : Nat) (A : List (List UInt8)) (t : Nat) (ht : t < A.length) : (tab (gf size p A t)).set (key p A[t]) (gf size p A t (key p A[t]) + size) = tab (gf size p A (t + 1)) := by
  apply tab_set
  · unfold gf; rw [cnt_snoc p _ t A ht, if_pos rfl, ← Nat.add_assoc, Nat.succ_mul]; omega
  · intro b hb
    unfold gf; rw [cnt_snoc p b t A ht, if_neg (fun h => hb h.symm), Nat.add_zero]

/-! ### the state of the radix sort -/
structure Rx (size n ga N : Nat) (w wr : World) (x y : Nat) (A T : List (List UInt8)) : Prop where
  st : St size n ga w wr x y A T
  box : wr.heap[w.heap.size]? = some (.cells #[.int .i64 (size : Int), .slice (some ⟨ga, 0, none⟩) N N] 35 (0, 0))
  bx : x ≠ w.heap.size
  bY : y ≠ w.heap.size
theorem grownBy_alloc {w wr : World} {row : Option Nat} (h : w.grownBy wr row) (o : Obj) : w.grownBy (wr.alloc o) row :=
  ⟨h.os, h.tape, h.output, by have := h.size; simp; omega, fun k hk hn => (Below.heap_alloc wr o k (Nat.lt_of_lt_of_le hk h.size)).trans (h.block k hk hn)⟩
theorem grownBy_setCell {w wr : World} {row : Option Nat} (h : w.grownBy wr row) (a : Addr) (v : Value) (ha : w.heap.size ≤ a.block) : w.grownBy (wr.setCell a v) row :=
  ⟨h.os, h.tape, h.output, by have := h.size; simp [World.setCell]; omega, fun k hk hn => (Below.heap_setCell wr a v k (by omega)).trans (h.block k hk hn)⟩
theorem Arr.alloc {w : World} {g : Nat} {l : List UInt8} (h : Arr w g l) (o : Obj) : Arr (w.alloc o) g l := by
  unfold Arr; rw [Below.heap_alloc w o g h.lt]; exact h
theorem Arr.setCell {w : World} {g : Nat} {l : List UInt8} (h : Arr w g l) (a : Addr) (v : Value) (hn : g ≠ a.block) : Arr (w.setCell a v) g l := by
  unfold Arr; rw [Below.heap_setCell w a v g hn]; exact h
theorem Rx.alloc {size n ga N : Nat} {w wr : World} {x y : Nat} {A T : List (List UInt8)} (h : Rx size n ga N w wr x y A T) (o : Obj) : Rx size n ga N w (wr.alloc o) x y A T :=
  ⟨{ h.st with aA := h.st.aA.alloc o, aT := h.st.aT.alloc o, gr := grownBy_alloc h.st.gr o }, by rw [Below.heap_alloc wr o _ (Array.getElem?_eq_some_iff.1 h.box).1]; exact h.box, h.bx, h.bY⟩
theorem Rx.drewN {size n ga N : Nat} {w wr : World} {x y : Nat} {A T : List (List UInt8)} (h : Rx size n ga N w wr x y A T) (q : Nat) : Rx size n ga N w (wr.drewN q) x y A T :=
  ⟨h.st.drewN q, by simp; exact h.box, h.bx, h.bY⟩
theorem Rx.setCell {size n ga N : Nat} {w wr : World} {x y : Nat} {A T : List (List UInt8)} (h : Rx size n ga N w wr x y A T) (a : Addr) (v : Value) (hx : a.block ≠ x) (hy : a.block ≠ y) (hb : w.heap.size < a.block) : Rx size n ga N w (wr.setCell a v) x y A T :=
  ⟨{ h.st with aA := h.st.aA.setCell a v hx.symm, aT := h.st.aT.setCell a v hy.symm, gr := grownBy_setCell h.st.gr a v (by omega) }, by rw [Below.heap_setCell wr a v _ (by omega)]; exact h.box, h.bx, h.bY⟩
theorem Rx.swap {size n ga N : Nat} {w wr : World} {x y : Nat} {A T : List (List UInt8)} (h : Rx size n ga N w wr x y A T) : Rx size n ga N w wr y x T A := ⟨h.st.swap, h.box, h.bY, h.bx⟩
theorem Rx.b0 {size n ga N : Nat} {w wr : World} {x y : Nat} {A T : List (List UInt8)} (h : Rx size n ga N w wr x y A T) : wr.cell? ⟨w.heap.size, 0, none⟩ = some (.int .i64 (size : Int)) := by
  rw [cell_of_row wr _ 0 _ 35 _ h.box]; rfl
theorem Rx.b1 {size n ga N : Nat} {w wr : World} {x y : Nat} {A T : List (List UInt8)} (h : Rx size n ga N w wr x y A T) : wr.cell? ⟨w.heap.size, 1, none⟩ = some (.slice (some ⟨ga, 0, none⟩) N N) := by
  rw [cell_of_row wr _ 1 _ 35 _ h.box]; rfl
theorem Rx.ltx {size n ga N : Nat} {w wr : World} {x y : Nat} {A T : List (List UInt8)} (h : Rx size n ga N w wr x y A T) : x < wr.heap.size ∧ y < wr.heap.size ∧ w.heap.size < wr.heap.size :=
  ⟨h.st.aA.lt, h.st.aT.lt, (Array.getElem?_eq_some_iff.1 h.box).1⟩
/-- The byte at place p of the block t. -/
theorem Rx.byte {size n ga N : Nat} {w wr : World} {x y : Nat} {A T : List (List UInt8)} (h : Rx size n ga N w wr x y A T) (t p I : Nat) (ht : t < n) (hp : p < size) (hI : I = t * size + p) :
    wr.cell? ⟨x, I, none⟩ = some (.int .u8 ((key p (A[t]'(by rw [h.st.lA]; exact ht)) : Nat) : Int)) := by
  have htA : t < A.length := by rw [h.st.lA]; exact ht
  have hl : (A[t]).length = size := h.st.bA _ (List.getElem_mem htA)
  have ef := flat_at h.st.bA t p htA hp
  have hlt : t * size + p < A.flatten.length := by
    rw [flat_len h.st.bA, h.st.lA]
    have := Nat.mul_le_mul_right size (show t + 1 ≤ n by omega)
    rw [Nat.succ_mul] at this
    omega
  rw [List.getElem?_eq_getElem hlt, List.getElem?_eq_getElem (show p < (A[t]).length by omega)] at ef
  injection ef with ef
  subst hI
  rw [h.st.aA.cell _ hlt, ef]
  unfold key
  rw [List.getD_eq_getElem?_getD, List.getElem?_eq_getElem (by omega)]
  rfl

/-- A block of the first row copied into the second, a table beside them. -/
theorem Rx.copy {size n ga N gn : Nat} {w wr : World} {x y : Nat} {A T : List (List UInt8)} {c : List Int} (h : Rx size n ga N w wr x y A T) (hI : IArr wr gn c) (hgy : gn ≠ y) (i k pi pk : Nat) (hi : i < n) (hk : k < n) (hpi : pi = i * size) (hpk : pk = k * size) :
    ∃ w4, (Builtin.copy_ #[27, 27] 3 #[.slice (some ⟨y, pk, none⟩) size (N - pk), .slice (some ⟨x, pi, none⟩) size (N - pi)]).run Try.prog wr = .ok (.int .i64 (size : Int)) w4 ∧
      Hid (Rx size n ga N w w4 x y A (T.set k (A[i]'(by rw [h.st.lA]; exact hi))) ∧ IArr w4 gn c) := by
  have hiA : i < A.length := by rw [h.st.lA]; exact hi
  have hl : (A[i]).length = size := h.st.bA _ (List.getElem_mem hiA)
  have hfit : k * size + (bc A[i]).length ≤ (bc T.flatten).toArray.size := by
    rw [bc_length, hl, List.size_toArray, bc_length, flat_len h.st.bT, h.st.lT]
    have := Nat.mul_le_mul_right size (show k + 1 ≤ n by omega)
    rw [Nat.succ_mul] at this
    exact this
  subst hpi hpk
  have hrun := run_copy_row (P := Try.prog) wr 27 27 3 5 y (k * size) size (N - k * size) ⟨x, i * size, none⟩ size (N - i * size) (bc T.flatten).toArray 5 (bc A[i]) Try.underlying27 size5 h.st.aT (by rw [bc_length, hl]; simp) (h.st.src i hi) hfit (bc_one _)
  refine ⟨_, ?_, ⟨h.st.put k hk A[i] hl, ?_, h.bx, h.bY⟩, ?_⟩
  · rw [hrun]
    simp [goInt, bc_length, hl]
  · rw [setRow_other _ _ _ _ h.bY.symm]; exact h.box
  · exact hI.row hgy

/-- The last copy: the sorted blocks into the group's own data. -/
theorem Rx.last {size n ga N : Nat} {w wr : World} {x y : Nat} {A T : List (List UInt8)} (h : Rx size n ga N w wr x y A T) (hN : N = n * size) (hg : x = ga ∨ y = ga) :
    ∃ w5, (Builtin.copy_ #[27, 27] 3 #[.slice (some ⟨ga, 0, none⟩) N N, .slice (some ⟨x, 0, none⟩) N N]).run Try.prog wr = .ok (.int .i64 (N : Int)) w5 ∧ Hid (Arr w5 ga A.flatten ∧ w.grownBy w5 (some ga)) := by
  have hlA : A.flatten.length = N := by rw [h.st.len, hN]
  obtain ⟨l, hl, hlN⟩ : ∃ l, Arr wr ga l ∧ l.length = N := by
    rcases hg with e | e
    · exact ⟨A.flatten, by rw [← e]; exact h.st.aA, hlA⟩
    · exact ⟨T.flatten, by rw [← e]; exact h.st.aT, by rw [h.st.lenT, hN]⟩
  have hsrc : ∀ j v, (bc A.flatten)[j]? = some v → wr.cell? ((⟨x, 0, none⟩ : Addr).add j) = some v := by
    intro j v hj
    have hj' : j < A.flatten.length := by
      have := (List.getElem?_eq_some_iff.1 hj).1
      rwa [bc_length] at this
    have e : (⟨x, 0, none⟩ : Addr).add j = ⟨x, j, none⟩ := by unfold Addr.add; split <;> simp_all
    rw [bc_at _ j hj'] at hj
    rw [e, h.st.aA.cell j hj']
    exact hj
  have hrun := run_copy_row (P := Try.prog) wr 27 27 3 5 ga 0 N N ⟨x, 0, none⟩ N N (bc l).toArray 5 (bc A.flatten) Try.underlying27 size5 hl (by rw [bc_length, hlA]; simp) hsrc (by rw [bc_length, List.size_toArray, bc_length]; omega) (bc_one _)
  have E : (bc l).toArray.toList.take 0 ++ bc A.flatten ++ (bc l).toArray.toList.drop (0 + (bc A.flatten).length) = bc A.flatten := by
    rw [List.drop_eq_nil_of_le (by simp [bc_length, hlN, hlA])]
    simp
  rw [E] at hrun
  refine ⟨_, ?_, setRow_arr hl _, setRow_grown h.st.gr ga (.inr rfl) _⟩
  rw [hrun]
  simp [goInt, bc_length, hlA]
end Go.Proofs.Qxb6601704a.So
