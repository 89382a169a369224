/-
  '==' of two sets of lengths.
-/
import Derived.Test.Qxb6000433aShortSets
import Derived.Laws.StructEq
namespace Go.Proofs.Qxb6000433a
open Go.RowKit

theorem eq38 (a b c d a' b' c' d' : Int) (w : World) : (Op.equalIn 10000 38 (.agg #[.int .u64 a, .int .u64 b, .int .u64 c, .int .u64 d]) (.agg #[.int .u64 a', .int .u64 b', .int .u64 c', .int .u64 d'])).run Try.prog w = .ok (a == a' && b == b' && c == c' && d == d') w := by
  have u3 := Try.underlying36
  have a3 := Try.isAgg36
  have z3 := Try.sizeOf36
  rw [show (10000 : Nat) = 9999 + 1 from rfl, Op.equalIn]
  simp only [Sem.run_bind, run_underlying Try.underlying38, Result.andThen_ok]
  simp only [Std.Legacy.Range.forIn_eq_forIn_range', Std.Legacy.Range.size, Nat.sub_zero, Nat.add_sub_cancel, Nat.div_one, List.range'_succ, List.range'_zero, List.forIn_cons, List.forIn_nil]
  go_simp
  by_cases h1 : a = a' <;> by_cases h2 : b = b' <;> by_cases h3 : c = c' <;> by_cases h4 : d = d' <;> simp [h1, h2, h3, h4]
end Go.Proofs.Qxb6000433a
