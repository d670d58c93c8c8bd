import Derived.Test.Qxb6601647aMb
namespace Go.Proofs.Qxb6601647a.Mb
open Go.RowKit

/-- The bank's namespace of k + 2 bytes, followed by a star, is the pattern. -/
def Hit (p b : List UInt8) (k : Nat) : Prop :=
  k + 2 ≤ b.length ∧ b[k]? = some 58 ∧ b[k + 1]? = some 58 ∧ p.length = k + 3 ∧ p[k + 2]? = some 42 ∧ p.take (k + 2) = b.take (k + 2)

theorem suf_iff (l s : List UInt8) : Lib.hasSuffix l s = true ↔ ∃ q, l = q ++ s := by
  unfold Lib.hasSuffix
  rw [List.isSuffixOf_iff_suffix]
  exact ⟨fun ⟨t, h⟩ => ⟨t, h.symm⟩, fun ⟨t, h⟩ => ⟨t, h.symm⟩⟩
theorem pre_iff (l s : List UInt8) : Lib.hasPrefix l s = true ↔ ∃ q, l = s ++ q := by
  unfold Lib.hasPrefix
  rw [List.isPrefixOf_iff_prefix]
  exact ⟨fun ⟨t, h⟩ => ⟨t, h.symm⟩, fun ⟨t, h⟩ => ⟨t, h.symm⟩⟩
theorem trim_app (q : List UInt8) (c : UInt8) : Lib.trimSuffix (q ++ [c]) [c] = q := by
  unfold Lib.trimSuffix
  rw [if_pos ((suf_iff _ _).2 ⟨q, rfl⟩)]
  simp

theorem star_iff (p : List UInt8) : (Lib.hasSuffix p [42] = true ∧ Lib.hasSuffix (Lib.trimSuffix p [42]) [58, 58] = true) ↔ ∃ q, p = q ++ [58, 58, 42] := by
  constructor
  · rintro ⟨h1, h2⟩
    obtain ⟨q, rfl⟩ := (suf_iff _ _).1 h1
    rw [trim_app] at h2
    obtain ⟨r, rfl⟩ := (suf_iff _ _).1 h2
    exact ⟨r, by simp⟩
  · rintro ⟨q, rfl⟩
    have e : q ++ [58, 58, 42] = (q ++ [58, 58]) ++ [42] := by simp
    rw [e, trim_app]
    exact ⟨(suf_iff _ _).2 ⟨_, rfl⟩, (suf_iff _ _).2 ⟨_, rfl⟩⟩

theorem ends_iff (p : List UInt8) : Lib.hasSuffix p [58, 58, 42] = true ↔ ∃ q, p = q ++ [58, 58, 42] := suf_iff _ _

theorem two_split (l : List UInt8) (k : Nat) (x y : UInt8) (h : l.length = k + 2) (hx : l[k]? = some x) (hy : l[k + 1]? = some y) : l = l.take k ++ [x, y] := by
  have h1 : l = l.take k ++ l.drop k := (List.take_append_drop k l).symm
  have hk : k < l.length := by omega
  have hk1 : k + 1 < l.length := by omega
  have h2 : l.drop k = [x, y] := by
    rw [List.drop_eq_getElem_cons hk, List.drop_eq_getElem_cons hk1, List.drop_eq_nil_of_le (by omega)]
    rw [List.getElem?_eq_getElem hk] at hx
    rw [List.getElem?_eq_getElem hk1] at hy
    injection hx with hx; injection hy with hy
    rw [hx, hy]
  rw [h2] at h1
  exact h1

theorem hit_form (p b : List UInt8) (k : Nat) (h : Hit p b k) : p = b.take (k + 2) ++ [42] ∧ b.take (k + 2) = b.take k ++ [58, 58] := by
  obtain ⟨h1, h2, h3, h4, h5, h6⟩ := h
  constructor
  · have hk : k + 2 < p.length := by omega
    have e : p = p.take (k + 2) ++ p.drop (k + 2) := (List.take_append_drop _ p).symm
    have e2 : p.drop (k + 2) = [42] := by
      rw [List.drop_eq_getElem_cons hk, List.drop_eq_nil_of_le (by omega)]
      rw [List.getElem?_eq_getElem hk] at h5
      injection h5 with h5
      rw [h5]
    rw [e2, h6] at e
    exact e
  · have e := two_split (b.take (k + 2)) k 58 58 (by simp; omega) (by rw [List.getElem?_take_of_lt (by omega)]; exact h2) (by rw [List.getElem?_take_of_lt (by omega)]; exact h3)
    rw [List.take_take, Nat.min_eq_left (by omega)] at e
    exact e

theorem mb_hit (p b : List UInt8) (k : Nat) (h : Hit p b k) : mbOf p b = 1 := by
  obtain ⟨e1, e2⟩ := hit_form p b k h
  unfold mbOf
  by_cases h0 : (p == [42]) = true
  · rw [if_pos h0]
  · rw [if_neg h0, if_pos ((star_iff p).2 ⟨b.take k, by rw [e1, e2]; simp⟩)]
    have e3 : Lib.trimSuffix p [42] = b.take (k + 2) := by rw [e1, trim_app]
    rw [e3, if_pos]
    exact (pre_iff _ _).2 ⟨b.drop (k + 2), (List.take_append_drop _ _).symm⟩

theorem mb_one (p b : List UInt8) (h : p = [42]) : mbOf p b = 1 := by
  subst h; simp [mbOf]

theorem mb_none (p b : List UInt8) (h0 : p ≠ [42]) (hn : ∀ k, ¬ Hit p b k) (he : Lib.hasSuffix p [58, 58, 42] = true) : mbOf p b = 0 := by
  obtain ⟨q, rfl⟩ := (ends_iff p).1 he
  unfold mbOf
  rw [if_neg (by simpa using h0), if_pos ((star_iff _).2 ⟨q, rfl⟩)]
  have e : q ++ [58, 58, 42] = (q ++ [58, 58]) ++ [42] := by simp
  rw [e, trim_app]
  by_cases hp : Lib.hasPrefix b (q ++ [58, 58]) = true
  · exfalso
    obtain ⟨r, rfl⟩ := (pre_iff _ _).1 hp
    refine hn q.length ⟨by simp, ?_, ?_, by simp, ?_, ?_⟩
    · simp
    · simp
    · simp
    · simp [List.take_append]
  · rw [if_neg hp]

theorem mb_eq (p b : List UInt8) (h0 : p ≠ [42]) (he : Lib.hasSuffix p [58, 58, 42] = false) : mbOf p b = if p == b then 2 else 0 := by
  unfold mbOf
  rw [if_neg (by simpa using h0), if_neg]
  intro h
  have := (ends_iff p).2 ((star_iff p).1 h)
  rw [this] at he
  exact absurd he (by decide)

theorem at_iff (b : ByteArray) (k : Nat) (h : k < b.size) (c : UInt8) (n : Int) (hn : n = (c.toNat : Int)) : (((b[k].toNat : Int) == n) = true) ↔ b.data.toList[k]? = some c := by
  subst hn
  have e : b.data.toList[k]? = some b[k] := by
    have : k < b.data.toList.length := by rw [← Lib.size_eq]; exact h
    rw [List.getElem?_eq_getElem this]
    rfl
  rw [e]
  constructor
  · intro h
    have h1 := eq_of_beq h
    have : b[k].toNat = c.toNat := by omega
    rw [UInt8.toNat_inj.1 this]
  · intro h
    injection h with h
    rw [h]; simp

theorem ends_list (l : List UInt8) (n : Nat) (h : l.length = n + 3) : (Lib.hasSuffix l [58, 58, 42] = true) ↔ l[n]? = some 58 ∧ l[n + 1]? = some 58 ∧ l[n + 2]? = some 42 := by
  rw [ends_iff]
  constructor
  · rintro ⟨q, rfl⟩
    have : q.length = n := by simpa using h
    subst this
    simp
  · rintro ⟨h1, h2, h3⟩
    refine ⟨l.take n, ?_⟩
    have a0 : n < l.length := by omega
    have a1 : n + 1 < l.length := by omega
    have a2 : n + 2 < l.length := by omega
    have e : l = l.take n ++ l.drop n := (List.take_append_drop n l).symm
    have e2 : l.drop n = [58, 58, 42] := by
      rw [List.drop_eq_getElem_cons a0, List.drop_eq_getElem_cons a1, List.drop_eq_getElem_cons a2, List.drop_eq_nil_of_le (by omega)]
      rw [List.getElem?_eq_getElem a0] at h1
      rw [List.getElem?_eq_getElem a1] at h2
      rw [List.getElem?_eq_getElem a2] at h3
      injection h1 with h1; injection h2 with h2; injection h3 with h3
      rw [h1, h2, h3]
    rw [e2] at e
    exact e
theorem ends_short (l : List UInt8) (h : l.length < 3) : Lib.hasSuffix l [58, 58, 42] = false := by
  rw [Bool.eq_false_iff]
  intro hh
  obtain ⟨q, rfl⟩ := (ends_iff l).1 hh
  simp at h
  omega
end Go.Proofs.Qxb6601647a.Mb
