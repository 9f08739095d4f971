/- '==' of two small arrays of integers. -/
import Derived.Test.YtogbagjgagbnkaaRows
import Derived.WalkKit
import Derived.ProofKit
import Derived.Laws.StructEq
namespace Go.Proofs.Ytogbagjgagbnkaa
open Go.RowKit

theorem sizeOf8 (w : World) : (sizeOf 5).run Try.prog w = .ok 1 w := by kernel_rfl
theorem part8 (k : IntKind) (x : Int) (cs : Array Value) (i : Nat) (h : cs[i]? = some (.int k x)) (w : World) : (part 5 cs i).run Try.prog w = .ok (.int k x) w := by
  have : (isAgg 5).run Try.prog w = .ok false w := by kernel_rfl
  simp [part, Sem.run_bind, this, h]

theorem eqArr3 (x0 x1 x2 y0 y1 y2 : Int) (w : World) : (binOp .eql 22 (.agg #[.int .u8 x0, .int .u8 x1, .int .u8 x2]) (.agg #[.int .u8 y0, .int .u8 y1, .int .u8 y2])).run Try.prog w = .ok (.bool ((x0 == y0) && ((x1 == y1) && (x2 == y2)))) w := by
  rw [run_eql_struct]
  rw [show (10000 : Nat) = 9998 + 1 + 1 from rfl]
  have h5 := fun (d : Nat) (a b : Int) (w : World) => run_equalIn_int (P := Try.prog) w d 5 .u8 .u8 a b Try.underlying5
  unfold Op.equalIn
  simp only [Sem.run_bind, run_underlying Try.underlying22, Result.andThen_ok, sizeOf8]
  simp [Std.Legacy.Range.forIn_eq_forIn_range', List.range', part8 .u8 _ _ 0, part8 .u8 _ _ 1, part8 .u8 _ _ 2, h5]
  by_cases e0 : x0 = y0 <;> by_cases e1 : x1 = y1 <;> by_cases e2 : x2 = y2 <;> simp [e0, e1, e2]
end Go.Proofs.Ytogbagjgagbnkaa
