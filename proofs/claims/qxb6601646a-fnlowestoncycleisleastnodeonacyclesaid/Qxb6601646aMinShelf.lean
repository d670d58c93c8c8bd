/-
  DERIVED: THE SHELF's CONTRACTS AT THIS DUMP, IN PLAIN WORDS (tools/lay-plain.mjs out of 'Qxb6601646aMinShelf.lean', which tools/lay-shelf.mjs wrote): THE SAME DECLARATIONS UNDER THE SAME NAMES: 'import', 'namespace', 'open', 'def', 'theorem' AND NOTHING ELSE: no command of the shelf's: FOR A HAND-IN. Each laying: the table of numbers ('.._ren') and one theorem, a field a fact of the dump's own or the kernel's comparison; each contract: ONE APPLICATION.
-/
import Derived.Shelf.Slices.Turned
import Derived.Test.Qxb6601646aProg
namespace Go.Proofs
open Go.Shelf
def Try.lays114_ren : Go.Shelf.Ren := ⟨fun | 114 => 43 | n => n, fun | 28 => 23 | 3 => 3 | 4 => 4 | 9 => 9 | 20 => 20 | 0 => 0 | n => n, fun | n => n⟩
theorem Try.lays114 : Go.Proofs.Lays.n114 Try.prog Try.lays114_ren := {
  mixed := by kernel_rfl
  f114 := Try.func43.trans (congrArg some (by kernel_rfl))
  t0 := Try.underlying0
  a0 := Try.isAgg0
  z0 := Try.sizeOf0
  v0 := Try.zeroValue0
  t3 := Try.underlying3
  a3 := Try.isAgg3
  z3 := Try.sizeOf3
  v3 := Try.zeroValue3
  t4 := Try.underlying4
  a4 := Try.isAgg4
  z4 := Try.sizeOf4
  v4 := Try.zeroValue4
  t9 := Try.underlying9
  a9 := Try.isAgg9
  z9 := Try.sizeOf9
  v9 := Try.zeroValue9
  t20 := Try.underlying20
  a20 := Try.isAgg20
  z20 := Try.sizeOf20
  v20 := Try.zeroValue20
  t28 := Try.underlying23
  a28 := Try.isAgg23
  z28 := Try.sizeOf23
  v28 := Try.zeroValue23 }
open Go.Lib in
/-- slices.Min at []int: "Min returns the minimal value in x. It panics if x is empty.": OF A SLICE THAT IS NOT EMPTY IT RETURNS 'Lib.minOf (the elements)'; the world is as it was. (Of an empty one it panics: no contract here.) (LAID: no walk: one application.) -/
theorem Try.slices_Min_int (b off n c : Nat) (zs : List Int) (w : World) (hn : 0 < n) (hz : n ≤ zs.length) (hbig : n ≤ 9223372036854775807) (hc : ∀ j, j < zs.length → w.cell? ⟨b, off + j, none⟩ = some (.int .i64 (zs.getD j 0))) :
    Calls Try.prog 43 #[.slice (some ⟨b, off, none⟩) n c] w fun e w' => e = .returned (.int .i64 (Lib.minOf (zs.take n))) ∧ w' = w := Any.slices_Min_int Try.lays114 b off n c zs w hn hz hbig hc
end Go.Proofs
