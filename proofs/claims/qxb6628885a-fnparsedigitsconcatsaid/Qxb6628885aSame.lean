/-
  Two arrays of two words with the same words are equal.
-/
import Derived.Test.Qxb6628885aParse
import Derived.ChangeKeysEq
namespace Go.Proofs.Qxb6628885a
open Go.RowKit

theorem info23 : ∃ i, Try.prog.info? 23 = some i :=
  Option.isSome_iff_exists.mp (by kernel_rfl : (Try.prog.info? 23).isSome = true)
theorem cells23 : Try.prog.cellsOf 23 = 1 := by kernel_rfl

theorem eq_pair (a b : Int) (w : World) : (Op.equalIn 10000 25 (.agg #[.int .u64 a, .int .u64 b]) (.agg #[.int .u64 a, .int .u64 b])).run Try.prog w = .ok true w := by
  obtain ⟨i, hi⟩ := info23
  rw [run_equalIn_array w 9999 _ _ Try.underlying25 hi, cells23]
  simp [Op.eqItems, List.range, List.range.loop, go_sem, Try.underlying23]

end Go.Proofs.Qxb6628885a
