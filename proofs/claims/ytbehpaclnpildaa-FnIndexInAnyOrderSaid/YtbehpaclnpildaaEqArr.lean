/- '==' of two small arrays of integers, and of two colors. -/
import Derived.Test.YtbehpaclnpildaaRows
import Derived.WalkKit
import Derived.ProofKit
import Derived.Laws.StructEq
namespace Go.Proofs.Ytbehpaclnpildaa
open Go.RowKit

theorem sizeOf_u8 (w : World) : (sizeOf 5).run Try.prog w = .ok 1 w := by kernel_rfl
theorem part_u8 (k : IntKind) (x : Int) (cs : Array Value) (i : Nat) (h : cs[i]? = some (.int k x)) (w : World) : (part 5 cs i).run Try.prog w = .ok (.int k x) w := by
  have : (isAgg 5).run Try.prog w = .ok false w := by kernel_rfl
  simp [part, Sem.run_bind, this, h]

theorem sizeOf_u16 (w : World) : (sizeOf 23).run Try.prog w = .ok 1 w := by kernel_rfl
theorem part_u16 (k : IntKind) (x : Int) (cs : Array Value) (i : Nat) (h : cs[i]? = some (.int k x)) (w : World) : (part 23 cs i).run Try.prog w = .ok (.int k x) w := by
  have : (isAgg 23).run Try.prog w = .ok false w := by kernel_rfl
  simp [part, Sem.run_bind, this, h]

theorem sizeOf_u32 (w : World) : (sizeOf 29).run Try.prog w = .ok 1 w := by kernel_rfl
theorem part_u32 (k : IntKind) (x : Int) (cs : Array Value) (i : Nat) (h : cs[i]? = some (.int k x)) (w : World) : (part 29 cs i).run Try.prog w = .ok (.int k x) w := by
  have : (isAgg 29).run Try.prog w = .ok false w := by kernel_rfl
  simp [part, Sem.run_bind, this, h]



theorem eqArr4hIn (d : Nat) (x0 x1 x2 x3 y0 y1 y2 y3 : Int) (w : World) : (Op.equalIn (d + 1 + 1) 24 (.agg #[.int .u16 x0, .int .u16 x1, .int .u16 x2, .int .u16 x3]) (.agg #[.int .u16 y0, .int .u16 y1, .int .u16 y2, .int .u16 y3])).run Try.prog w = .ok (((x0 == y0) && ((x1 == y1) && ((x2 == y2) && (x3 == y3))))) w := by
  have h5 := fun (a b : Int) (w : World) => run_equalIn_int (P := Try.prog) w d 23 .u16 .u16 a b Try.underlying23
  unfold Op.equalIn
  simp only [Sem.run_bind, run_underlying Try.underlying24, Result.andThen_ok, sizeOf_u16]
  simp [Std.Legacy.Range.forIn_eq_forIn_range', List.range', part_u16 .u16 _ _ 0, part_u16 .u16 _ _ 1, part_u16 .u16 _ _ 2, part_u16 .u16 _ _ 3, h5]
  by_cases e0 : x0 = y0 <;> by_cases e1 : x1 = y1 <;> by_cases e2 : x2 = y2 <;> by_cases e3 : x3 = y3 <;> simp [e0, e1, e2, e3]
theorem eqArr4h (x0 x1 x2 x3 y0 y1 y2 y3 : Int) (w : World) : (binOp .eql 24 (.agg #[.int .u16 x0, .int .u16 x1, .int .u16 x2, .int .u16 x3]) (.agg #[.int .u16 y0, .int .u16 y1, .int .u16 y2, .int .u16 y3])).run Try.prog w = .ok (.bool (((x0 == y0) && ((x1 == y1) && ((x2 == y2) && (x3 == y3)))))) w := by
  rw [run_eql_struct, show (10000 : Nat) = 9998 + 1 + 1 from rfl, eqArr4hIn]
  rfl

theorem eqArr4In (d : Nat) (x0 x1 x2 x3 y0 y1 y2 y3 : Int) (w : World) : (Op.equalIn (d + 1 + 1) 30 (.agg #[.int .u32 x0, .int .u32 x1, .int .u32 x2, .int .u32 x3]) (.agg #[.int .u32 y0, .int .u32 y1, .int .u32 y2, .int .u32 y3])).run Try.prog w = .ok (((x0 == y0) && ((x1 == y1) && ((x2 == y2) && (x3 == y3))))) w := by
  have h5 := fun (a b : Int) (w : World) => run_equalIn_int (P := Try.prog) w d 29 .u32 .u32 a b Try.underlying29
  unfold Op.equalIn
  simp only [Sem.run_bind, run_underlying Try.underlying30, Result.andThen_ok, sizeOf_u32]
  simp [Std.Legacy.Range.forIn_eq_forIn_range', List.range', part_u32 .u32 _ _ 0, part_u32 .u32 _ _ 1, part_u32 .u32 _ _ 2, part_u32 .u32 _ _ 3, h5]
  by_cases e0 : x0 = y0 <;> by_cases e1 : x1 = y1 <;> by_cases e2 : x2 = y2 <;> by_cases e3 : x3 = y3 <;> simp [e0, e1, e2, e3]
theorem eqArr4 (x0 x1 x2 x3 y0 y1 y2 y3 : Int) (w : World) : (binOp .eql 30 (.agg #[.int .u32 x0, .int .u32 x1, .int .u32 x2, .int .u32 x3]) (.agg #[.int .u32 y0, .int .u32 y1, .int .u32 y2, .int .u32 y3])).run Try.prog w = .ok (.bool (((x0 == y0) && ((x1 == y1) && ((x2 == y2) && (x3 == y3)))))) w := by
  rw [run_eql_struct, show (10000 : Nat) = 9998 + 1 + 1 from rfl, eqArr4In]
  rfl

theorem eqColor (k a b c d k' a' b' c' d' : Int) (w : World) : (binOp .eql 26 (.agg #[.int .i64 k, .int .u16 a, .int .u16 b, .int .u16 c, .int .u16 d]) (.agg #[.int .i64 k', .int .u16 a', .int .u16 b', .int .u16 c', .int .u16 d'])).run Try.prog w = .ok (.bool ((k == k') && ((a == a') && ((b == b') && ((c == c') && (d == d')))))) w := by
  have hf : (Try.prog.fieldsOf 26).toList.map (fun f => (f.name, f.type, f.offset)) = [("Kind", 3, 0), ("C", 24, 1)] := by kernel_rfl
  have hp : Try.prog.stoodInHeld 26 = false := by kernel_rfl
  have hu : Try.prog.underlying 26 = some (.struct (Try.prog.fieldsOf 26)) := by kernel_rfl
  have h3 := fun (d : Nat) (a b : Int) (w : World) => run_equalIn_int (P := Try.prog) w d 3 .i64 .i64 a b Try.underlying3
  rw [run_eql_struct, show (10000 : Nat) = 9997 + 1 + 1 + 1 from rfl, run_equalIn_agg w (9997 + 1 + 1) 26 _ _ hu hp]
  generalize (Try.prog.fieldsOf 26).toList = fs at hf
  have hl := congrArg List.length hf
  simp only [List.length_map, List.length_cons, List.length_nil] at hl
  obtain ⟨f0, f1, rfl⟩ : ∃ f0 f1, fs = [f0, f1] := by
    match fs, hl with
    | [f0, f1], _ => exact ⟨f0, f1, rfl⟩
  simp only [List.map_cons, List.map_nil, List.cons.injEq, Prod.mk.injEq, and_true] at hf
  obtain ⟨⟨n0, t0, o0⟩, n1, t1, o1⟩ := hf
  have q0 : f0.name ≠ "_" := by rw [n0]; decide
  have q1 : f1.name ≠ "_" := by rw [n1]; decide
  simp only [Op.eqFields, if_pos q0, if_pos q1, t0, t1, o0, o1]
  simp [part, h3, eqArr4hIn]
  by_cases e : k = k' <;> by_cases e1 : a = a' <;> by_cases e2 : b = b' <;> by_cases e3 : c = c' <;> by_cases e4 : d = d' <;> simp [e, e1, e2, e3, e4]
end Go.Proofs.Ytbehpaclnpildaa
