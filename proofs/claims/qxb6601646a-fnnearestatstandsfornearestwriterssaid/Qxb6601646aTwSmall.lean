import Derived.Test.Qxb6601646aRows
import Derived.Test.Qxb6601646aTjAll
import Derived.WalkKit
import Derived.WalkSpells
import Derived.WalkLawsBesides
import Derived.Deep.QuietTactic
import Derived.BigQuiet
namespace Go.Proofs.Qxb6601646a.Tw
open Go.RowKit

/-- What the walks are told of a slice of numbers. -/
def Row (w : World) (a : Option Addr) (n : Nat) (l : List Int) : Prop :=
  l.length = n ∧ (n = 0 ∨ ∃ b off, a = some ⟨b, off, none⟩ ∧ b < w.heap.size ∧ ∀ j, j < n → w.cell? ⟨b, off + j, none⟩ = some (.int .i64 (l.getD j 0)))
theorem Row.keep {w w' : World} {a : Option Addr} {n : Nat} {l : List Int} (h : Row w a n l) (hb : Below w.heap.size w w') : Row w' a n l := by
  refine ⟨h.1, ?_⟩
  rcases h.2 with h | ⟨b, off, h1, h2, h3⟩
  · exact .inl h
  · exact .inr ⟨b, off, h1, by have := hb.size; omega, fun j hj => (hb.cell (p := ⟨b, off + j, none⟩) h2).trans (h3 j hj)⟩
theorem Row.at {w : World} {a : Option Addr} {n : Nat} {l : List Int} (h : Row w a n l) (k : Nat) (hk : k < n) :
    ∃ b off, a = some ⟨b, off, none⟩ ∧ b < w.heap.size ∧ w.cell? ⟨b, off + k, none⟩ = some (.int .i64 (l.getD k 0)) := by
  rcases h.2 with h | ⟨b, off, h1, h2, h3⟩
  · omega
  · exact ⟨b, off, h1, h2, h3 k hk⟩
/-- What they are told of a slice of such slices. -/
def Mat (w : World) (a : Option Addr) (n : Nat) (R : List (List Int)) : Prop :=
  R.length = n ∧ (n = 0 ∨ ∃ b off, a = some ⟨b, off, none⟩ ∧ b < w.heap.size ∧ ∀ j, j < n → ∃ a' l' c', w.cell? ⟨b, off + j, none⟩ = some (.slice a' l' c') ∧ l' ≤ 9223372036854775807 ∧ Row w a' l' (R.getD j []))
theorem Mat.keep {w w' : World} {a : Option Addr} {n : Nat} {R : List (List Int)} (h : Mat w a n R) (hb : Below w.heap.size w w') : Mat w' a n R := by
  refine ⟨h.1, ?_⟩
  rcases h.2 with h | ⟨b, off, h1, h2, h3⟩
  · exact .inl h
  · refine .inr ⟨b, off, h1, by have := hb.size; omega, fun j hj => ?_⟩
    obtain ⟨a', l', c', e1, e2, e3⟩ := h3 j hj
    exact ⟨a', l', c', (hb.cell (p := ⟨b, off + j, none⟩) h2).trans e1, e2, e3.keep hb⟩
theorem Mat.at {w : World} {a : Option Addr} {n : Nat} {R : List (List Int)} (h : Mat w a n R) (k : Nat) (hk : k < n) :
    ∃ b off, a = some ⟨b, off, none⟩ ∧ b < w.heap.size ∧ ∃ a' l' c', w.cell? ⟨b, off + k, none⟩ = some (.slice a' l' c') ∧ l' ≤ 9223372036854775807 ∧ Row w a' l' (R.getD k []) := by
  rcases h.2 with h | ⟨b, off, h1, h2, h3⟩
  · omega
  · exact ⟨b, off, h1, h2, h3 k hk⟩

theorem ret_bool {a b : Bool} (h : a = b) : Ending.returned (.bool a) = .returned (.bool b) := by rw [h]
def IsBool (e : Ending) : Prop := ∃ B : Bool, e = .returned (.bool B)

/-- zzBytes: some bool. -/
theorem bytes_any (a b : Option Addr) (n c m d : Nat) (z : Int) (R : List (List Int)) (w : World) (hr : Mat w a n R) (hn : n ≤ 9223372036854775807) (hm : m ≤ 9223372036854775807) :
    Calls Try.prog 27 #[.slice a n c, .slice b m d, .int .i64 z] w fun e w' => IsBool e ∧ w' = w := by
  by_cases h1 : (1048576 : Int) < n
  · go_enter Try.func27, Try.ntmps27
    go_wp2
    go_ret
    exact ⟨⟨false, rfl⟩, rfl⟩
  go_enter Try.func27, Try.ntmps27
  go_wp2
  go_loop [7, 8] (fun t i => ∃ (k : Nat) (z : Int), k ≤ n ∧ 0 ≤ z ∧ z ≤ 1048576 ∧ i = .int .i64 k ∧ t = .int .i64 z) (fun _ i => n - (intOf i).toNat)
  case atStart => exact ⟨0, n, Nat.zero_le _, by omega, by omega, rfl, by simp⟩
  case round =>
    obtain ⟨k, z, hk, hz0, hz1, rfl, rfl⟩ := hrel
    by_cases hlt : k < n
    · obtain ⟨b1, off, rfl, hb, a', l', c', hcell, hl', _⟩ := hr.at k hlt
      have hlt' : (k : Int) < (n : Int) := by omega
      clear hr
      by_cases h1 : (1048576 : Int) < l'
      · go_wp2
        go_ret
        exact ⟨⟨false, rfl⟩, rfl⟩
      · by_cases h2 : (1048576 : Int) < z + l'
        · go_wp2
          go_ret
          exact ⟨⟨false, rfl⟩, rfl⟩
        · go_wp2
          go_round
          case rel => exact ⟨k + 1, z + l', by omega, by omega, by omega, by go_num, by go_num⟩
          case measure => simp [intOf]; omega
    · have hlt' : ¬ (k : Int) < (n : Int) := by omega
      clear hr
      by_cases h2 : (1048576 : Int) < m
      · go_wp2
        go_ret
        exact ⟨⟨false, rfl⟩, rfl⟩
      by_cases h3 : (1048576 : Int) < z + m
      · go_wp2
        go_ret
        exact ⟨⟨false, rfl⟩, rfl⟩
      go_wp2
      go_ret
      exact ⟨⟨true, rfl⟩, rfl⟩
end Go.Proofs.Qxb6601646a.Tw
