import Derived.Test.YbulkayguDoorLen
import Derived.Laws.StructEq
namespace Go.Proofs.YbulkayguDoor
open Go Go.RowKit

abbrev uu (a b : Int) : Array Value := #[.int .u8 a, .int .u8 b, .int .u8 0, .int .u8 0, .int .u8 0, .int .u8 171, .int .u8 0, .int .u8 0, .int .u8 0, .int .u8 0, .int .u8 0, .int .u8 0, .int .u8 0, .int .u8 0, .int .u8 0, .int .u8 0]

set_option maxRecDepth 100000 in
set_option maxHeartbeats 4000000 in
theorem uu_equal (a b c d : Int) (w : World) : (Op.equalIn 10000 40 (.agg (uu a b)) (.agg (uu c d))).run Ybad.prog w = .ok (a == c && b == d) w := by
  have e : ∀ (x y : Int) (w : World), (Op.equalIn 9999 5 (.int .u8 x) (.int .u8 y)).run Ybad.prog w = .ok (x == y) w := fun x y w => run_equalIn_int w 9998 5 .u8 .u8 x y Ybad.underlying5
  have a5 := Ybad.isAgg5
  have z5 := Ybad.sizeOf5
  rw [show (10000 : Nat) = 9999 + 1 from rfl, Op.equalIn]
  simp only [Sem.run_bind, run_underlying Ybad.underlying40, Result.andThen_ok, z5]
  simp only [Std.Legacy.Range.forIn_eq_forIn_range', Std.Legacy.Range.size, Nat.sub_zero, Nat.add_sub_cancel, Nat.div_one, List.range'_succ, List.range'_zero, List.forIn_cons, List.forIn_nil, Nat.mul_one]
  by_cases h1 : a = c <;> by_cases h2 : b = d <;> simp [part, a5, e, h1, h2, Sem.run_bind, uu]
end Go.Proofs.YbulkayguDoor
