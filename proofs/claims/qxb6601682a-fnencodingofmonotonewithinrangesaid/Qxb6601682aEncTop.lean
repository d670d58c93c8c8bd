import Derived.Test.Qxb6601682aEncWalks
import Derived.RowKit3
namespace Go.Proofs.Qxb6601682a.Enc
open Go.RowKit

/-- The law's walk: true, whatever the two versions. -/
theorem walk (a0 : Int) (a1 : Int) (w : World) :
    Calls Try.prog 3 #[.int .u64 a0, .int .u64 a1] w fun e w' => e = .returned (.bool true) ∧ Grown w w' := by
  by_cases hsw : a1 < a0
  · have t1 := encI_top a1
    have t0 := encI_top a0
    have l := encI_le a1 a0 (by omega)
    have b1 := (encI_bd a1).1
    have b0 := (encI_bd a0).2
    have c1 : ∀ w, _ := fun w => zenc_any a1 w
    have c0 : ∀ w, _ := fun w => zenc_any a0 w
    generalize encI a1 = p at *
    generalize encI a0 = q at *
    go_enter Try.func3, Try.ntmps3
    go_wp2_with fail
    refine (c1 _).mono ?_
    rintro e w' ⟨rfl, rfl⟩
    go_wp2_with fail
    refine (c0 _).mono ?_
    rintro e w' ⟨rfl, rfl⟩
    clear c1 c0
    go_wp2
    go_ret
    refine ⟨?_, Grown.refl _⟩
    simp
  · have t1 := encI_top a1
    have t0 := encI_top a0
    have l := encI_le a0 a1 (by omega)
    have b0 := (encI_bd a0).1
    have b1 := (encI_bd a1).2
    have c1 : ∀ w, _ := fun w => zenc_any a1 w
    have c0 : ∀ w, _ := fun w => zenc_any a0 w
    generalize encI a1 = p at *
    generalize encI a0 = q at *
    go_enter Try.func3, Try.ntmps3
    go_wp2_with fail
    refine (c0 _).mono ?_
    rintro e w' ⟨rfl, rfl⟩
    go_wp2_with fail
    refine (c1 _).mono ?_
    rintro e w' ⟨rfl, rfl⟩
    clear c1 c0
    go_wp2
    go_ret
    refine ⟨?_, Grown.refl _⟩
    simp
end Go.Proofs.Qxb6601682a.Enc
