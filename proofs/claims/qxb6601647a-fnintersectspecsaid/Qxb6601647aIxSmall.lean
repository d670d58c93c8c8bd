import Derived.Test.Qxb6601647aSlShelf
import Derived.WalkKit
import Derived.WalkSpells
import Derived.WalkLawsBesides
import Derived.Deep.QuietTactic
import Derived.BigQuiet
namespace Go.Proofs.Qxb6601647a.Ix
open Go.RowKit

/-- What the walks are told of a slice of n strings: it has no element; or it leads to a row whose first cells hold them. -/
def Row (w : World) (a : Option Addr) (n : Nat) (ss : List ByteArray) : Prop :=
  ss.length = n ∧ (n = 0 ∨ ∃ b off, a = some ⟨b, off, none⟩ ∧ b < w.heap.size ∧ ∀ j, j < n → w.cell? ⟨b, off + j, none⟩ = some (.string (ss.getD j ByteArray.empty)))

theorem Row.keep {w w' : World} {a : Option Addr} {n : Nat} {ss : List ByteArray} (h : Row w a n ss) (hb : Below w.heap.size w w') : Row w' a n ss := by
  refine ⟨h.1, ?_⟩
  rcases h.2 with h | ⟨b, off, h1, h2, h3⟩
  · exact .inl h
  · exact .inr ⟨b, off, h1, by have := hb.size; omega, fun j hj => (hb.cell (p := ⟨b, off + j, none⟩) h2).trans (h3 j hj)⟩

/-- An element's cell. -/
theorem Row.at {w : World} {a : Option Addr} {n : Nat} {ss : List ByteArray} (h : Row w a n ss) (k : Nat) (hk : k < n) :
    ∃ b off, a = some ⟨b, off, none⟩ ∧ b < w.heap.size ∧ w.cell? ⟨b, off + k, none⟩ = some (.string (ss.getD k ByteArray.empty)) := by
  rcases h.2 with h | ⟨b, off, h1, h2, h3⟩
  · omega
  · exact ⟨b, off, h1, h2, h3 k hk⟩

theorem ret_int {k : IntKind} {a b : Int} (h : a = b) : Ending.returned (.int k a) = .returned (.int k b) := by rw [h]
theorem ret_bool {a b : Bool} (h : a = b) : Ending.returned (.bool a) = .returned (.bool b) := by rw [h]

/-- listBytes: some number, not negative, below 2^22. -/
theorem listBytes_any (a : Option Addr) (n c : Nat) (ss : List ByteArray) (w : World) (hr : Row w a n ss) (hn : n ≤ 9223372036854775807) :
    Calls Try.prog 15 #[.slice a n c] w fun e w' => ∃ t : Int, 0 ≤ t ∧ t ≤ 4194304 ∧ e = .returned (.int .i64 t) ∧ w' = w := by
  go_enter Try.func15, Try.ntmps15
  go_wp2
  go_loop [3, 4] (fun t i => ∃ (k : Nat) (z : Int), k ≤ n ∧ 0 ≤ z ∧ z ≤ 1048576 ∧ i = .int .i64 k ∧ t = .int .i64 z) (fun _ i => n - (intOf i).toNat)
  case atStart => exact ⟨0, 0, Nat.zero_le _, by omega, by omega, rfl, rfl⟩
  case round =>
    obtain ⟨k, z, hk, hz0, hz1, rfl, rfl⟩ := hrel
    by_cases hlt : k < n
    · obtain ⟨b, off, rfl, hb, hcell⟩ := hr.at k hlt
      have hlt' : (k : Int) < (n : Int) := by omega
      clear hr
      generalize ss.getD k ByteArray.empty = x at *
      by_cases h1 : (1048576 : Int) < x.size
      · go_wp2
        go_ret
        exact ⟨2097152, by omega, by omega, rfl, rfl⟩
      · by_cases h2 : (1048576 : Int) < z + (16 + x.size)
        · go_wp2
          go_ret
          exact ⟨z + (16 + x.size), by omega, by omega, rfl, rfl⟩
        · go_wp2
          go_round
          case rel => exact ⟨k + 1, z + (16 + x.size), by omega, by omega, by omega, by go_num, by go_num⟩
          case measure => simp [intOf]; omega
    · have hlt' : ¬ (k : Int) < (n : Int) := by omega
      go_wp2
      go_ret
      exact ⟨z, by omega, by omega, rfl, rfl⟩

/-- A call that answers some bool. -/
def IsBool (e : Ending) : Prop := ∃ B : Bool, e = .returned (.bool B)

/-- zzBytes_FnIntersectSpec: some bool. -/
theorem bytes_any (a b : Option Addr) (n c m d : Nat) (ss ts : List ByteArray) (w : World) (hr : Row w a n ss) (hq : Row w b m ts) (hn : n ≤ 9223372036854775807) (hm : m ≤ 9223372036854775807) :
    Calls Try.prog 14 #[.slice a n c, .slice b m d] w fun e w' => IsBool e ∧ w' = w := by
  by_cases h1 : (1048576 : Int) < n
  · go_enter Try.func14, Try.ntmps14
    go_wp2
    go_ret
    exact ⟨⟨false, rfl⟩, rfl⟩
  go_enter Try.func14, Try.ntmps14
  go_wp2
  go_loop [5, 6] (fun t i => ∃ (k : Nat) (z : Int), k ≤ n ∧ 0 ≤ z ∧ z ≤ 1048576 ∧ i = .int .i64 k ∧ t = .int .i64 z) (fun _ i => n - (intOf i).toNat)
  case atStart => exact ⟨0, n, Nat.zero_le _, by omega, by omega, rfl, by simp⟩
  case round =>
    obtain ⟨k, z, hk, hz0, hz1, rfl, rfl⟩ := hrel
    by_cases hlt : k < n
    · obtain ⟨b1, off, rfl, hb, hcell⟩ := hr.at k hlt
      have hlt' : (k : Int) < (n : Int) := by omega
      clear hr
      generalize ss.getD k ByteArray.empty = x at *
      by_cases h1 : (1048576 : Int) < x.size
      · go_wp2
        go_ret
        exact ⟨⟨false, rfl⟩, rfl⟩
      · by_cases h2 : (1048576 : Int) < z + x.size
        · go_wp2
          go_ret
          exact ⟨⟨false, rfl⟩, rfl⟩
        · go_wp2
          go_round
          case rel => exact ⟨k + 1, z + x.size, by omega, by omega, by omega, by go_num, by go_num⟩
          case measure => simp [intOf]; omega
    · have hlt' : ¬ (k : Int) < (n : Int) := by omega
      clear hr
      by_cases h2 : (1048576 : Int) < m
      · go_wp2
        go_ret
        exact ⟨⟨false, rfl⟩, rfl⟩
      by_cases h3 : (1048576 : Int) < z + m
      · go_wp2
        go_ret
        exact ⟨⟨false, rfl⟩, rfl⟩
      go_wp2
      go_loop [5, 7] (fun t i => ∃ (k : Nat) (z : Int), k ≤ m ∧ 0 ≤ z ∧ z ≤ 1048576 ∧ i = .int .i64 k ∧ t = .int .i64 z) (fun _ i => m - (intOf i).toNat)
      case atStart => exact ⟨0, z + m, Nat.zero_le _, by omega, by omega, rfl, rfl⟩
      case round =>
        obtain ⟨k2, z2, hk2, hz20, hz21, rfl, rfl⟩ := hrel
        by_cases hlt2 : k2 < m
        · obtain ⟨b2, off2, rfl, hb2, hcell2⟩ := hq.at k2 hlt2
          have hlt2' : (k2 : Int) < (m : Int) := by omega
          clear hq
          generalize ts.getD k2 ByteArray.empty = x at *
          by_cases h4 : (1048576 : Int) < x.size
          · go_wp2
            go_ret
            exact ⟨⟨false, rfl⟩, rfl⟩
          · by_cases h5 : (1048576 : Int) < z2 + x.size
            · go_wp2
              go_ret
              exact ⟨⟨false, rfl⟩, rfl⟩
            · go_wp2
              go_round
              case rel => exact ⟨k2 + 1, z2 + x.size, by omega, by omega, by omega, by go_num, by go_num⟩
              case measure => simp [intOf]; omega
        · have hlt2' : ¬ (k2 : Int) < (m : Int) := by omega
          go_wp2
          go_ret
          exact ⟨⟨true, rfl⟩, rfl⟩

/-- containsStr. -/
theorem contains_any (a : Option Addr) (n c : Nat) (ss : List ByteArray) (x : ByteArray) (w : World) (hr : Row w a n ss) (hn : n ≤ 9223372036854775807) :
    Calls Try.prog 19 #[.slice a n c, .string x] w fun e w' => e = .returned (.bool (Lib.containsS ss x)) ∧ w' = w := by
  have HL : Hid (ss.length = n) := hr.1
  go_enter Try.func19, Try.ntmps19
  go_wp2
  go_loop [5] (fun i => ∃ k : Nat, k ≤ n ∧ i = .int .i64 k ∧ Hid (∀ j, j < k → ss.getD j ByteArray.empty ≠ x)) (fun i => n - (intOf i).toNat)
  case atStart => exact ⟨0, Nat.zero_le _, rfl, fun j hj => absurd hj (Nat.not_lt_zero _)⟩
  case round =>
    obtain ⟨k, hk, rfl, HN⟩ := hrel
    by_cases hlt : k < n
    · obtain ⟨b, off, rfl, hb, hcell⟩ := hr.at k hlt
      have hlt' : (k : Int) < (n : Int) := by omega
      clear hr
      have HX : Hid (ss.getD k ByteArray.empty ∈ ss) := by
        have : k < ss.length := by rw [HL.out]; exact hlt
        rw [List.getD_eq_getElem?_getD, List.getElem?_eq_getElem this]
        exact List.getElem_mem this
      have HN' : Hid (ss.getD k ByteArray.empty ≠ x → ∀ j, j < k + 1 → ss.getD j ByteArray.empty ≠ x) := by
        intro h j hj
        by_cases e : j = k
        · rw [e]; exact h
        · exact HN.out j (by omega)
      generalize ss.getD k ByteArray.empty = y at *
      by_cases he : y = x
      · have h1 : (y.toList == x.toList) = true := by rw [he]; simp
        have E : Hid (Lib.containsS ss x = true) := (Lib.containsS_iff _ _).2 (by rw [← he]; exact HX.out)
        clear he
        go_wp2
        go_ret
        exact ⟨ret_bool E.out.symm, rfl⟩
      · have h1 : (y.toList == x.toList) = false := by
          rw [beq_eq_false_iff_ne]
          intro h
          rw [ByteArray.toList_eq, ByteArray.toList_eq] at h
          exact he (ByteArray.ext (Array.ext' h))
        have E : Hid (∀ j, j < k + 1 → ss.getD j ByteArray.empty ≠ x) := HN'.out he
        clear he
        go_wp2
        go_round
        case rel => exact ⟨k + 1, by omega, by go_num, E⟩
        case measure => simp [intOf]; omega
    · have hlt' : ¬ (k : Int) < (n : Int) := by omega
      have E : Hid (Lib.containsS ss x = false) := by
        show _ = _
        rw [Bool.eq_false_iff]
        intro h
        obtain ⟨j, hj, e⟩ := List.mem_iff_getElem.1 ((Lib.containsS_iff _ _).1 h)
        have hj' : j < k := by rw [HL.out] at hj; omega
        refine HN.out j hj' ?_
        rw [List.getD_eq_getElem?_getD, List.getElem?_eq_getElem hj]
        exact e
      go_wp2
      go_ret
      exact ⟨ret_bool E.out.symm, rfl⟩
end Go.Proofs.Qxb6601647a.Ix
