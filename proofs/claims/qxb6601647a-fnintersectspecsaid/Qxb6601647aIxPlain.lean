import Derived.Lib.SlicesCompact
import Derived.Sort.EncStr
namespace Go.Proofs.Qxb6601647a.Ix

theorem le_of_not_lt {x y : List UInt8} (h : ¬ y < x) : x ≤ y := List.not_lt.1 h
theorem lt_of_le_ne {x y : List UInt8} (h : x ≤ y) (n : x ≠ y) : x < y := by
  by_cases h1 : x < y
  · exact h1
  · exact absurd (List.le_antisymm h (List.not_lt.1 h1)) n
theorem le_lt {x y z : List UInt8} (h : x ≤ y) (h2 : y < z) : x < z := by
  refine lt_of_le_ne (List.le_trans h (List.le_of_lt h2)) ?_
  intro e
  subst e
  exact (List.not_lt.2 h) h2

/-- A list that rises. -/
def Up (l : List (List UInt8)) : Prop := ∀ i, i + 1 < l.length → l[i]! < l[i + 1]!

theorem getBang (d : List (List UInt8)) (j : Nat) (h : j < d.length) : (d.toArray)[j]! = d[j] := by
  simp [h]

theorem compact_mem (zs : List (List UInt8)) (x : List UInt8) : x ∈ Lib.compact zs ↔ x ∈ zs := by
  unfold Lib.compact Lib.compactUpTo
  simp only [List.mem_map, List.mem_filter, List.mem_range]
  constructor
  · rintro ⟨j, ⟨hj, _⟩, rfl⟩
    rw [getBang zs j hj]
    exact List.getElem_mem hj
  · intro hx
    obtain ⟨j, hj, hjx⟩ := List.mem_iff_getElem.1 hx
    have key : ∀ j, ∀ hj : j < zs.length, zs[j] = x → ∃ a, (a < zs.length ∧ Lib.keeps zs.toArray a = true) ∧ zs.toArray[a]! = x := by
      intro j
      induction j with
      | zero =>
        intro hj h
        exact ⟨0, ⟨hj, by simp [Lib.keeps]⟩, by rw [getBang zs 0 hj]; exact h⟩
      | succ j ih =>
        intro hj h
        by_cases e : zs[j]'(by omega) = x
        · exact ih (by omega) e
        · refine ⟨j + 1, ⟨hj, ?_⟩, by rw [getBang zs _ hj]; exact h⟩
          apply Lib.keeps_pos
          rw [getBang zs _ hj, show j + 1 - 1 = j from rfl, getBang zs j (by omega), h]
          exact fun h' => e h'.symm
    exact key j hj hjx

theorem pair_map_up (d : List (List UInt8)) (hs : d.Pairwise (· ≤ ·)) : ∀ (l : List Nat), l.Pairwise (· < ·) → (∀ j ∈ l, j < d.length ∧ Lib.keeps d.toArray j = true) → (l.map (d.toArray[·]!)).Pairwise (· < ·) := by
  intro l
  induction l with
  | nil => intro _ _; exact List.Pairwise.nil
  | cons a l ih =>
    intro hp hk
    rw [List.map_cons, List.pairwise_cons]
    rw [List.pairwise_cons] at hp
    refine ⟨?_, ih hp.2 fun j hj => hk j (by simp [hj])⟩
    intro y hy
    obtain ⟨b, hb, rfl⟩ := List.mem_map.1 hy
    have hab := hp.1 b hb
    obtain ⟨hb1, hb2⟩ := hk b (by simp [hb])
    have hb3 : d.toArray[b]! ≠ d.toArray[b - 1]! := by
      simp only [Lib.keeps, decide_eq_true_eq] at hb2
      rcases hb2 with h | h
      · omega
      · exact h
    rw [getBang d b hb1, getBang d (b - 1) (by omega)] at hb3
    rw [getBang d a (by omega), getBang d b hb1]
    have hpw := List.pairwise_iff_getElem.1 hs
    have h1 : d[a]'(by omega) ≤ d[b - 1]'(by omega) := by
      by_cases e : a = b - 1
      · subst e; exact List.le_refl _
      · exact hpw a (b - 1) (by omega) (by omega) (by omega)
    have h2 : d[b - 1]'(by omega) ≤ d[b] := hpw (b - 1) b (by omega) hb1 (by omega)
    exact le_lt h1 (lt_of_le_ne h2 fun h => hb3 h.symm)

theorem compact_up (zs : List (List UInt8)) (hs : zs.Pairwise (· ≤ ·)) : (Lib.compact zs).Pairwise (· < ·) := by
  unfold Lib.compact Lib.compactUpTo
  refine pair_map_up zs hs _ (List.Pairwise.filter _ List.pairwise_lt_range) ?_
  intro j hj
  rw [List.mem_filter, List.mem_range] at hj
  exact hj

theorem sorted_merge (l : List (List UInt8)) : (l.mergeSort fun x y => decide (x ≤ y)).Pairwise (· ≤ ·) := by
  have h := List.pairwise_mergeSort (le := fun x y : List UInt8 => decide (x ≤ y)) (fun a b c h1 h2 => by simp at *; exact List.le_trans h1 h2) (fun a b => by simp; exact List.le_total a b) l
  exact h.imp fun h => by simpa using h

/-- What sortedSet leaves. -/
def sset (l : List (List UInt8)) : List (List UInt8) := Lib.compact (l.mergeSort fun x y => decide (x ≤ y))
theorem sset_up (l : List (List UInt8)) : (sset l).Pairwise (· < ·) := compact_up _ (sorted_merge l)
theorem sset_mem (l : List (List UInt8)) (x : List UInt8) : x ∈ sset l ↔ x ∈ l := by
  unfold sset
  rw [compact_mem]
  exact (List.mergeSort_perm l _).mem_iff
theorem compact_length (zs : List (List UInt8)) : (Lib.compact zs).length ≤ zs.length := by
  unfold Lib.compact Lib.compactUpTo
  rw [List.length_map]
  exact Nat.le_trans (List.length_filter_le _ _) (by simp)
end Go.Proofs.Qxb6601647a.Ix
