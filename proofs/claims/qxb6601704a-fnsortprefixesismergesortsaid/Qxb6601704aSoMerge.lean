import Derived.Test.Qxb6601704aSoRadix
namespace Go.Proofs.Qxb6601704a.So

/-- The blocks from i up to j. -/
def seg (A : List (List UInt8)) (i j : Nat) : List (List UInt8) := (A.drop i).take (j - i)
theorem seg_cons (A : List (List UInt8)) (i j : Nat) (h : i < j) (hj : j ≤ A.length) : seg A i j = A[i] :: seg A (i + 1) j := by
  unfold seg
  rw [List.drop_eq_getElem_cons (by omega), show j - i = (j - (i + 1)) + 1 from by omega, List.take_succ_cons]
theorem seg_nil (A : List (List UInt8)) (i j : Nat) (h : j ≤ i) : seg A i j = [] := by
  unfold seg
  rw [show j - i = 0 from by omega, List.take_zero]

/-- Where the merge of two runs stands. -/
def Mrg (A : List (List UInt8)) (lo mid hi i j : Nat) (M : List (List UInt8)) : Prop :=
  M ++ List.merge (seg A i mid) (seg A j hi) le = List.merge (seg A lo mid) (seg A mid hi) le

theorem Mrg.start (A : List (List UInt8)) (lo mid hi : Nat) : Mrg A lo mid hi lo mid [] := rfl
theorem merge_left (A : List (List UInt8)) (mid hi i j : Nat) (hm : mid ≤ A.length) (hh : hi ≤ A.length) (h : i < mid) (hl : hi ≤ j ∨ ∃ hj : j < A.length, (A[i]'(by omega)) ≤ A[j]) :
    List.merge (seg A i mid) (seg A j hi) le = (A[i]'(by omega)) :: List.merge (seg A (i + 1) mid) (seg A j hi) le := by
  rw [seg_cons A i mid h hm]
  by_cases hj : hi ≤ j
  · rw [seg_nil A j hi hj, List.merge_right, List.merge_right]
  · rcases hl with hl | ⟨hj2, hl⟩
    · omega
    · rw [seg_cons A j hi (by omega) hh, List.cons_merge_cons, if_pos (by unfold le; simpa using hl)]
theorem merge_right (A : List (List UInt8)) (mid hi i j : Nat) (hm : mid ≤ A.length) (hh : hi ≤ A.length) (h : j < hi) (hl : mid ≤ i ∨ ∃ hi' : i < A.length, ¬ A[i] ≤ (A[j]'(by omega))) :
    List.merge (seg A i mid) (seg A j hi) le = (A[j]'(by omega)) :: List.merge (seg A i mid) (seg A (j + 1) hi) le := by
  rw [seg_cons A j hi h hh]
  by_cases hi1 : mid ≤ i
  · rw [seg_nil A i mid hi1, List.nil_merge, List.nil_merge]
  · rcases hl with hl | ⟨hi2, hl⟩
    · omega
    · rw [seg_cons A i mid (by omega) hm, List.cons_merge_cons, if_neg (by unfold le; simpa using hl)]

theorem Mrg.left {A : List (List UInt8)} {lo mid hi i j : Nat} {M : List (List UInt8)} (h : Mrg A lo mid hi i j M) (hm : mid ≤ A.length) (hh : hi ≤ A.length) (hi1 : i < mid) (hl : hi ≤ j ∨ ∃ hj : j < A.length, (A[i]'(by omega)) ≤ A[j]) :
    Mrg A lo mid hi (i + 1) j (M ++ [A[i]'(by omega)]) := by
  unfold Mrg at *
  rw [merge_left A mid hi i j hm hh hi1 hl] at h
  simpa using h
theorem Mrg.right {A : List (List UInt8)} {lo mid hi i j : Nat} {M : List (List UInt8)} (h : Mrg A lo mid hi i j M) (hm : mid ≤ A.length) (hh : hi ≤ A.length) (hj1 : j < hi) (hl : mid ≤ i ∨ ∃ hi' : i < A.length, ¬ A[i] ≤ (A[j]'(by omega))) :
    Mrg A lo mid hi i (j + 1) (M ++ [A[j]'(by omega)]) := by
  unfold Mrg at *
  rw [merge_right A mid hi i j hm hh hj1 hl] at h
  simpa using h
theorem Mrg.done {A : List (List UInt8)} {lo mid hi i j : Nat} {M : List (List UInt8)} (h : Mrg A lo mid hi i j M) (hi1 : mid ≤ i) (hj : hi ≤ j) : M = List.merge (seg A lo mid) (seg A mid hi) le := by
  unfold Mrg at h
  rw [seg_nil A i mid hi1, seg_nil A j hi hj] at h
  simpa using h

/-- Where a pass stands: the blocks below lo are merged. -/
def Psd (A : List (List UInt8)) (W lo : Nat) (P : List (List UInt8)) : Prop := P ++ pass W A.length (A.drop lo) = pass W A.length A
theorem Psd.start (A : List (List UInt8)) (W : Nat) : Psd A W 0 [] := rfl
theorem seg_take (A : List (List UInt8)) (lo W mid : Nat) (h : mid = min (lo + W) A.length) : seg A lo mid = (A.drop lo).take W := by
  unfold seg
  by_cases hc : lo + W ≤ A.length
  · rw [show mid - lo = W from by omega]
  · rw [List.take_of_length_le (by rw [List.length_drop]; omega), List.take_of_length_le (by rw [List.length_drop]; omega)]
theorem Psd.step {A P : List (List UInt8)} {W lo mid hi : Nat} (hW : 0 < W) (h : Psd A W lo P) (hlo : lo < A.length) (hm : mid = min (lo + W) A.length) (hh : hi = min (lo + 2 * W) A.length) :
    Psd A W (lo + 2 * W) (P ++ List.merge (seg A lo mid) (seg A mid hi) le) := by
  unfold Psd at *
  have hne : A.drop lo ≠ [] := by
    intro e
    have := congrArg List.length e
    rw [List.length_drop] at this
    simp at this
    omega
  obtain ⟨f, hf⟩ : ∃ f, A.length = f + 1 := ⟨A.length - 1, by omega⟩
  have e1 : pass W A.length (A.drop lo) = List.merge ((A.drop lo).take W) (((A.drop lo).drop W).take W) le ++ pass W f ((A.drop lo).drop (2 * W)) := by
    rw [hf, pass, if_neg hne]
  rw [e1, List.drop_drop, List.drop_drop] at h
  have e2 : seg A lo mid = (A.drop lo).take W := seg_take A lo W mid hm
  have e3 : seg A mid hi = (A.drop (lo + W)).take W := by
    by_cases hc : lo + W ≤ A.length
    · have hm' : mid = lo + W := by omega
      rw [hm']
      exact seg_take A (lo + W) W hi (by omega)
    · rw [seg_nil A mid hi (by omega), List.drop_eq_nil_of_le (by omega)]; simp
  rw [e2, e3, List.append_assoc, ← h]
  congr 2
  exact pass_fuel W hW _ _ _ (by rw [List.length_drop]; omega) (by rw [List.length_drop]; omega)
theorem Psd.done {A P : List (List UInt8)} {W lo : Nat} (h : Psd A W lo P) (hlo : A.length ≤ lo) : P = pass W A.length A := by
  unfold Psd at h
  rw [List.drop_eq_nil_of_le hlo] at h
  have : pass W A.length [] = [] := by cases A.length <;> simp [pass]
  rw [this, List.append_nil] at h
  exact h
theorem merge_len (A : List (List UInt8)) (lo mid hi : Nat) (h1 : lo ≤ mid) (h2 : mid ≤ hi) (h3 : hi ≤ A.length) : (List.merge (seg A lo mid) (seg A mid hi) le).length = hi - lo := by
  rw [(List.merge_perm_append le).length_eq, List.length_append]
  unfold seg
  rw [List.length_take, List.length_take, List.length_drop, List.length_drop]
  omega

/-- The next place is filled. -/
theorem take_set (T : List (List UInt8)) (k : Nat) (x : List UInt8) (hk : k < T.length) : (T.set k x).take (k + 1) = T.take k ++ [x] := by
  rw [List.take_succ_eq_append_getElem (by simpa using hk), List.getElem_set_self, List.take_set_of_le (Nat.le_refl _)]
end Go.Proofs.Qxb6601704a.So
