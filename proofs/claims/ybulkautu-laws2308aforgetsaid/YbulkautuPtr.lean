import Derived.Test.YbulkautuProg
import Derived.LaidEql
import Derived.WalkKit
namespace Go.Proofs.Ybulkautu
open Go.RowKit

theorem info33 : (Yba.prog.info? 33).map (fun i => (i.zero, i.size, i.bytes)) = some (some (.agg #[.slice none 0 0, .slice none 0 0, .int .i64 0, .bool false]), 4, 64) := by kernel_rfl
theorem equalIn_ptr (d s : Nat) (w : World) : (Op.equalIn (d + 1) 29 (.pointer (some ⟨s, 0, none⟩)) (.pointer (some ⟨s, 0, none⟩))).run Yba.prog w = .ok true w := by
  obtain ⟨i0, hi, _, h1, _⟩ := info_parts info33
  simp [Op.equalIn, run_underlying Yba.underlying29, typeInfo, sizeOf, hi, run_sameAddr_same]
theorem neq_ptr (s : Nat) (w : World) : (binOp .neq 29 (.pointer (some ⟨s, 0, none⟩)) (.pointer (some ⟨s, 0, none⟩))).run Yba.prog w = .ok (.bool false) w := by
  simp only [binOp]
  simp [Op.equal, Op.maxDepth, equalIn_ptr 9999 s w]
end Go.Proofs.Ybulkautu
