import Derived.Test.Qxb6601704aProg
import Derived.Test.Qxb6601704aSoRadix
import Derived.WalkSpells
import Derived.WalkLawsBesides
import Derived.Deep.QuietTactic
import Derived.BigQuiet
import Derived.Laws.CopyOwn
namespace Go.Proofs.Qxb6601704a.So
open Go.RowKit
open Go.Proofs.Qxb6601704a.Esc (bc bc_length bc_append)

theorem ret_int {k : IntKind} {a b : Int} (h : a = b) : Ending.returned (.int k a) = .returned (.int k b) := by rw [h]
theorem ret_bool {a b : Bool} (h : a = b) : Ending.returned (.bool a) = .returned (.bool b) := by rw [h]

/-- The block g is just the bytes l. -/
def Arr (w : World) (g : Nat) (l : List UInt8) : Prop := w.heap[g]? = some (.cells (bc l).toArray 5 (0, 0))
theorem bc_at (l : List UInt8) (j : Nat) (h : j < l.length) : (bc l)[j]? = some (.int .u8 (l[j].toNat : Int)) := by
  simp [bc, List.getElem?_eq_getElem h]
theorem Arr.cell {w : World} {g : Nat} {l : List UInt8} (h : Arr w g l) (j : Nat) (hj : j < l.length) : w.cell? ⟨g, j, none⟩ = some (.int .u8 (l[j].toNat : Int)) := by
  rw [cell_of_row w g j _ 5 _ h, List.getElem?_toArray, bc_at l j hj]
theorem Arr.lt {w : World} {g : Nat} {l : List UInt8} (h : Arr w g l) : g < w.heap.size := (Array.getElem?_eq_some_iff.1 h).1
theorem Arr.drewN {w : World} {g : Nat} {l : List UInt8} (h : Arr w g l) (q : Nat) : Arr (w.drewN q) g l := by
  unfold Arr; simp; exact h
theorem Arr.kept {w w' : World} {g : Nat} {l : List UInt8} {row : Option Nat} (h : Arr w g l) (hg : w.grownBy w' row) (hn : some g ≠ row) : Arr w' g l := by
  unfold Arr
  rw [hg.block g h.lt hn]; exact h

theorem ex1 (w : World) (a b : Nat) : ∃ r, (w.drewN a).drewN b = w.drewN r := ⟨a + b, by simp⟩
theorem ex2 (w : World) (a b c : Nat) : ∃ r, ((w.drewN a).drewN b).drewN c = w.drewN r := ⟨a + b + c, by simp⟩

/-! ### comparing blocks -/
theorem lt_at : ∀ (k : Nat) (x y : List UInt8) (hx : k < x.length) (hy : k < y.length), x.take k = y.take k → x[k] < y[k] → x < y
  | 0, a :: x, b :: y, _, _, _, h => lt_cons_head (by simpa using h)
  | k + 1, a :: x, b :: y, hx, hy, he, h => by
    simp only [List.take_succ_cons, List.cons.injEq] at he
    rw [List.cons_lt_cons_iff]
    exact .inr ⟨he.1, lt_at k x y (by simpa using hx) (by simpa using hy) he.2 (by simpa using h)⟩
  | _, [], _, hx, _, _, _ => by simp at hx
  | _, _ :: _, [], _, hy, _, _ => by simp at hy

theorem cmp_less (l : List UInt8) (i j size k : Nat) (hi : i + size ≤ l.length) (hj : j + size ≤ l.length) (hk : k < size)
    (he : ((l.drop i).take size).take k = ((l.drop j).take size).take k) (h : l[i + k] < l[j + k]) : (l.drop i).take size < (l.drop j).take size := by
  refine lt_at k _ _ (by simp; omega) (by simp; omega) he ?_
  simpa using h
theorem cmp_step (l : List UInt8) (i j size k : Nat) (hi : i + size ≤ l.length) (hj : j + size ≤ l.length) (hk : k < size)
    (he : ((l.drop i).take size).take k = ((l.drop j).take size).take k) (h : l[i + k] = l[j + k]) : ((l.drop i).take size).take (k + 1) = ((l.drop j).take size).take (k + 1) := by
  rw [List.take_succ_eq_append_getElem (by simp; omega), List.take_succ_eq_append_getElem (by simp; omega), he]
  simp [h]

set_option maxHeartbeats 1000000 in
/-- zlCompareBlocks, two blocks of one array. -/
theorem cmp_any (g N C : Nat) (l : List UInt8) (i j size : Nat) (I J : Int) (w : World) (ha : Arr w g l) (hN : l.length = N) (hI : I = (i : Int)) (hJ : J = (j : Int)) (hi : i + size ≤ N) (hj : j + size ≤ N) (hm : N ≤ 1048576) :
    Calls Try.prog 17 #[.slice (some ⟨g, 0, none⟩) N C, .int .i64 I, .slice (some ⟨g, 0, none⟩) N C, .int .i64 J, .int .i64 (size : Int)] w
      fun e w' => ∃ c : Int, e = .returned (.int .i64 c) ∧ (c ≤ 0 ↔ (l.drop i).take size ≤ (l.drop j).take size) ∧ ∃ q, w' = w.drewN q := by
  subst hI hJ
  have HL : Hid (l.length = N) := hN
  clear hN
  go_enter Try.func17, Try.ntmps17
  go_wp2
  go_loopw [11] (fun t wr => ∃ k q : Nat, k ≤ size ∧ t = .int .i64 k ∧ wr = w.drewN q ∧ Hid (((l.drop i).take size).take k = ((l.drop j).take size).take k)) (fun t _ => size - (intOf t).toNat)
  case atStart => exact ⟨0, 0, Nat.zero_le _, rfl, rfl, rfl⟩
  case round =>
    obtain ⟨k, q, hk, rfl, rfl, HE⟩ := hrel
    by_cases hlt : k < size
    · have hlt' : (k : Int) < (size : Int) := by omega
      have hi1 : i + k < l.length := by rw [HL.out]; omega
      have hj1 : j + k < l.length := by rw [HL.out]; omega
      have c1 := ha.cell (i + k) hi1
      have c2 := ha.cell (j + k) hj1
      have b1 : (i : Int) + (k : Int) < (N : Int) := by omega
      have b2 : (j : Int) + (k : Int) < (N : Int) := by omega
      have b3 : (0 : Int) ≤ (i : Int) + (k : Int) := by omega
      have b4 : (0 : Int) ≤ (j : Int) + (k : Int) := by omega
      have HS : Hid (l[i + k] = l[j + k] → ((l.drop i).take size).take (k + 1) = ((l.drop j).take size).take (k + 1)) := cmp_step l i j size k (by rw [HL.out]; omega) (by rw [HL.out]; omega) hlt HE.out
      have H1 : Hid (l[i + k] < l[j + k] → (l.drop i).take size < (l.drop j).take size) := cmp_less l i j size k (by rw [HL.out]; omega) (by rw [HL.out]; omega) hlt HE.out
      have H2 : Hid (l[j + k] < l[i + k] → (l.drop j).take size < (l.drop i).take size) := cmp_less l j i size k (by rw [HL.out]; omega) (by rw [HL.out]; omega) hlt HE.out.symm
      clear ha
      generalize l[i + k] = x at *
      generalize l[j + k] = y at *
      go_wp2
      go_quiet (fail)
      by_cases hxy : (x.toNat : Int) < (y.toNat : Int)
      · go_wp2
        go_ret
        exact ⟨-1, rfl, ⟨fun _ => List.le_of_lt (H1.out (UInt8.lt_iff_toNat_lt.2 (by omega))), fun _ => by omega⟩, by first | exact ex1 _ _ _ | exact ⟨_, rfl⟩⟩
      · by_cases hyx : (y.toNat : Int) < (x.toNat : Int)
        · go_wp2
          go_quiet (fail)
          go_wp2
          go_ret
          exact ⟨1, rfl, ⟨fun h => by omega, fun h => absurd (H2.out (UInt8.lt_iff_toNat_lt.2 (by omega))) (List.not_lt.2 h)⟩, by first | exact ex2 _ _ _ _ | exact ex1 _ _ _ | exact ⟨_, rfl⟩⟩
        · go_wp2
          go_quiet (fail)
          go_wp2
          go_roundw
          case rel => exact ⟨k + 1, _, by omega, by go_num, rfl, HS.out (UInt8.toNat_inj.1 (by omega))⟩
          case measure => simp [intOf]; omega
    · have hlt' : ¬ (k : Int) < (size : Int) := by omega
      have E : Hid ((l.drop i).take size ≤ (l.drop j).take size) := by
        have h := HE.out
        have hks : k = size := by omega
        rw [hks, List.take_of_length_le (List.length_take_le _ _), List.take_of_length_le (List.length_take_le _ _)] at h
        show _ ≤ _
        rw [h]; exact List.le_refl _
      go_wp2
      go_ret
      exact ⟨0, rfl, ⟨fun _ => E.out, fun _ => by omega⟩, _, rfl⟩
end Go.Proofs.Qxb6601704a.So
