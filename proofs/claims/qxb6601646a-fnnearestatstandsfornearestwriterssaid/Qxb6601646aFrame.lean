import Derived.Test.Qxb6601646aTwSmall
import Derived.WalkKit
import Derived.ProofKit
import Derived.OpenShut
import Derived.ShutString
import Derived.ChangeOld
import Derived.Below
import Derived.SliceStrings
import Derived.Deep.Matrix
namespace Go.Proofs.Qxb6601646a.Fr
open Go.ChangeShapes Go.WideShapes Go.ChangeAt Go.RowKit Go.Proofs.Qxb6601646a.Tw

theorem own : ownKnob Try.prog.godebug = none := by kernel_rfl
theorem laidOut : laidOutB Try.prog = true := by kernel_rfl
theorem row_of {w : World} {x : Addr} {len cap : Nat} {zs : List Int} (hl : len ≤ cap) (hz : zs.length = cap)
    (hcell : ∀ i, i < cap → w.cell? (x.add i) = some (.int .i64 (zs.getD i 0))) : Row w (some x) len (zs.take len) := by
  refine ⟨by rw [List.length_take]; omega, ?_⟩
  by_cases h0 : len = 0
  · exact .inl h0
  · obtain ⟨b, off, spot⟩ := x
    have hc := hcell 0 (by omega)
    have hspot : spot = none := by simpa [Addr.add] using World.cell?_spot hc
    subst hspot
    refine .inr ⟨b, off, rfl, by simpa [Addr.add] using World.block_lt_of_cell? w _ hc, fun j hj => ?_⟩
    have h := hcell j (by omega)
    have e : (⟨b, off, none⟩ : Addr).add j = ⟨b, off + j, none⟩ := by unfold Addr.add; split <;> simp_all
    rw [e] at h
    rw [h, List.getD_eq_getElem?_getD, List.getD_eq_getElem?_getD, List.getElem?_take, if_pos hj]
/-- From the cells that the reading gives to a matrix. -/
theorem mat_of {w : World} {x : Addr} {len cap : Nat} (A : Nat → Option Addr) (L C : Nat → Nat) (Z : Nat → List Int) (hl : len ≤ cap)
    (h : ∀ r, r < cap → w.cell? (x.add r) = some (.slice (A r) (L r) (C r)) ∧ L r ≤ C r ∧ C r ≤ maxLen ∧ (Z r).length = C r ∧ (A r = none → C r = 0) ∧ ∀ a', A r = some a' → ∀ c, c < C r → w.cell? (a'.add c) = some (.int .i64 ((Z r).getD c 0))) :
    Mat w (some x) len ((List.range len).map fun r => (Z r).take (L r)) := by
  refine ⟨by simp, ?_⟩
  by_cases h0 : len = 0
  · exact .inl h0
  · obtain ⟨b, off, spot⟩ := x
    have hc := (h 0 (by omega)).1
    have hspot : spot = none := by simpa [Addr.add] using World.cell?_spot hc
    subst hspot
    refine .inr ⟨b, off, rfl, by simpa [Addr.add] using World.block_lt_of_cell? w _ hc, fun j hj => ?_⟩
    obtain ⟨h1, h2, h3, h4, h5, h6⟩ := h j (by omega)
    have e : (⟨b, off, none⟩ : Addr).add j = ⟨b, off + j, none⟩ := by unfold Addr.add; split <;> simp_all
    rw [e] at h1
    have er : ((List.range len).map fun r => (Z r).take (L r)).getD j [] = (Z j).take (L j) := by
      rw [List.getD_eq_getElem?_getD, List.getElem?_map, List.getElem?_range hj]; rfl
    rw [er]
    refine ⟨A j, L j, C j, h1, by unfold maxLen at h3; omega, ?_⟩
    cases hA : A j with
    | none =>
      have := h5 hA
      refine ⟨by rw [List.length_take]; omega, .inl (by omega)⟩
    | some a' => exact row_of h2 h4 (h6 a' hA)
end Go.Proofs.Qxb6601646a.Fr
