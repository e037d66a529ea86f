import Derived.Test.YbulkaurqProg
import Derived.Laws.StructEq
import Derived.WalkKit
namespace Go.Proofs.Ybulkaurq
open Go.RowKit

theorem array_same (d : Nat) (x0 x1 x2 x3 x4 : Int) (w : World) : (Op.equalIn (d + 2) 46 (.agg #[.int .u64 x0, .int .u64 x1, .int .u64 x2, .int .u64 x3, .int .u64 x4]) (.agg #[.int .u64 x0, .int .u64 x1, .int .u64 x2, .int .u64 x3, .int .u64 x4])).run Yba.prog w = .ok true w := by
  have hi : ∀ (x : Int) (w : World), (Op.equalIn (d + 1) 24 (.int .u64 x) (.int .u64 x)).run Yba.prog w = .ok true w := fun x w => by
    rw [run_equalIn_int w d 24 .u64 .u64 x x Yba.underlying24]; simp
  rw [Op.equalIn]
  simp only [Sem.run_bind, run_underlying Yba.underlying46, Result.andThen_ok, Yba.sizeOf24, Std.Legacy.Range.forIn_eq_forIn_range']
  rw [show List.range' 0 (({ start := 0, stop := 5, step := 1, step_pos := by decide } : Std.Legacy.Range).size) 1 = [0, 1, 2, 3, 4] from rfl]
  simp [List.forIn_cons, part, hi]

theorem neq_same (t x0 x1 x2 x3 x4 : Int) (w : World) : (binOp .neq 48 (.agg #[.int .u32 t, .int .u64 x0, .int .u64 x1, .int .u64 x2, .int .u64 x3, .int .u64 x4]) (.agg #[.int .u32 t, .int .u64 x0, .int .u64 x1, .int .u64 x2, .int .u64 x3, .int .u64 x4])).run Yba.prog w = .ok (.bool false) w := by
  have ha := array_same 9997 x0 x1 x2 x3 x4
  rw [run_neq_struct]
  go_simp
end Go.Proofs.Ybulkaurq
