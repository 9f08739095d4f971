/- The contracts of sqDiff and of the reference's Distance. -/
import Derived.Test.YtbehpaclnpildaaSpec
import Derived.WalkKit
import Derived.ProofKit
import Derived.OpenShut
import Derived.LoopN
import Derived.Lib.MinMax
namespace Go.Proofs.Ytbehpaclnpildaa
namespace Plain
/-- A quarter of the square of the difference, rounded down. -/
def sq (x y : Int) : Int := (x - y) * (x - y) / 4
/-- How far two numbers are apart, squared. -/
def apart2 (x y : Int) : Int := max (x - y) (y - x) * max (x - y) (y - x)
/-- The square of the Euclidean distance. -/
def dist (x0 x1 x2 x3 y0 y1 y2 y3 : Int) : Int := apart2 x0 y0 + apart2 x1 y1 + apart2 x2 y2 + apart2 x3 y3
/-- What the code adds up. -/
def qsum (x0 x1 x2 x3 y0 y1 y2 y3 : Int) : Int := sq x0 y0 + sq x1 y1 + sq x2 y2 + sq x3 y3

theorem apart2_eq (x y : Int) : apart2 x y = (x - y) * (x - y) := by
  unfold apart2
  rcases Int.le_total x y with h | h
  · rw [Int.max_eq_right (by omega)]
    have e : y - x = -(x - y) := by omega
    rw [e, Int.neg_mul_neg]
  · rw [Int.max_eq_left (by omega)]
theorem sqr_range {x y : Int} (hx0 : 0 ≤ x) (hx1 : x ≤ 65535) (hy0 : 0 ≤ y) (hy1 : y ≤ 65535) : 0 ≤ (x - y) * (x - y) ∧ (x - y) * (x - y) ≤ 4294836225 := by
  rcases Int.le_total x y with h | h
  · have e : (x - y) * (x - y) = (y - x) * (y - x) := by grind
    rw [e]
    exact ⟨Int.mul_nonneg (by omega) (by omega), Int.le_trans (Int.mul_le_mul (show y - x ≤ 65535 by omega) (show y - x ≤ 65535 by omega) (by omega) (by omega)) (by decide)⟩
  · exact ⟨Int.mul_nonneg (by omega) (by omega), Int.le_trans (Int.mul_le_mul (show x - y ≤ 65535 by omega) (show x - y ≤ 65535 by omega) (by omega) (by omega)) (by decide)⟩
theorem sq_range {x y : Int} (hx0 : 0 ≤ x) (hx1 : x ≤ 65535) (hy0 : 0 ≤ y) (hy1 : y ≤ 65535) : 0 ≤ sq x y ∧ sq x y ≤ 1073709056 := by
  have h := sqr_range hx0 hx1 hy0 hy1
  unfold sq
  generalize (x - y) * (x - y) = m at *
  omega
theorem sq_code {x y : Int} (hx0 : 0 ≤ x) (hx1 : x ≤ 65535) (hy0 : 0 ≤ y) (hy1 : y ≤ 65535) : (x - y) % 4294967296 * ((x - y) % 4294967296) % 4294967296 / 4 = sq x y := by
  have h := sqr_range hx0 hx1 hy0 hy1
  rw [← Int.mul_emod]
  unfold sq
  generalize (x - y) * (x - y) = m at *
  omega
end Plain
open Go.ChangeShapes Go.WideShapes Go.ChangeAt Go.RowKit Plain
set_option linter.unusedVariables false

theorem sqDiff (x y : Int) (w : World) (hx0 : 0 ≤ x) (hx1 : x ≤ 65535) (hy0 : 0 ≤ y) (hy1 : y ≤ 65535) :
    Calls Try.prog 34 #[.int .u32 x, .int .u32 y] w fun e w' => e = .returned (.int .u32 (sq x y)) ∧ w = w' := by
  go_enter Try.func34, Try.ntmps34
  go_wp2
  go_ret
  refine ⟨congrArg (fun n => Ending.returned (.int .u32 n)) ?_, rfl⟩
  exact sq_code hx0 hx1 hy0 hy1

set_option maxHeartbeats 1000000 in
theorem specDistance (x0 x1 x2 x3 y0 y1 y2 y3 : Int) (w : World) (hx0 : 0 ≤ x0) (gx0 : x0 ≤ 65535) (hx1 : 0 ≤ x1) (gx1 : x1 ≤ 65535) (hx2 : 0 ≤ x2) (gx2 : x2 ≤ 65535) (hx3 : 0 ≤ x3) (gx3 : x3 ≤ 65535) (hy0 : 0 ≤ y0) (gy0 : y0 ≤ 65535) (hy1 : 0 ≤ y1) (gy1 : y1 ≤ 65535) (hy2 : 0 ≤ y2) (gy2 : y2 ≤ 65535) (hy3 : 0 ≤ y3) (gy3 : y3 ≤ 65535) :
    Calls Try.prog 14 #[.agg #[.int .u32 x0, .int .u32 x1, .int .u32 x2, .int .u32 x3], .agg #[.int .u32 y0, .int .u32 y1, .int .u32 y2, .int .u32 y3]] w fun e w' => e = .returned (.int .i64 (dist x0 x1 x2 x3 y0 y1 y2 y3)) ∧ Below w.heap.size w w' := by
  have i0 : ∀ (x0 x1 x2 x3 : Value) (w : World), (Instr.index 30 (.agg #[x0, x1, x2, x3]) (.int .i64 0)).run Try.prog w = .ok x0 w := fun _ _ _ _ _ => by kernel_rfl
  have i1 : ∀ (x0 x1 x2 x3 : Value) (w : World), (Instr.index 30 (.agg #[x0, x1, x2, x3]) (.int .i64 1)).run Try.prog w = .ok x1 w := fun _ _ _ _ _ => by kernel_rfl
  have i2 : ∀ (x0 x1 x2 x3 : Value) (w : World), (Instr.index 30 (.agg #[x0, x1, x2, x3]) (.int .i64 2)).run Try.prog w = .ok x2 w := fun _ _ _ _ _ => by kernel_rfl
  have i3 : ∀ (x0 x1 x2 x3 : Value) (w : World), (Instr.index 30 (.agg #[x0, x1, x2, x3]) (.int .i64 3)).run Try.prog w = .ok x3 w := fun _ _ _ _ _ => by kernel_rfl
  have r0 := sqr_range hx0 gx0 hy0 gy0
  have r1 := sqr_range hx1 gx1 hy1 gy1
  have r2 := sqr_range hx2 gx2 hy2 gy2
  have r3 := sqr_range hx3 gx3 hy3 gy3
  rw [← apart2_eq] at r0 r1 r2 r3
  unfold apart2 at r0 r1 r2 r3
  go_enter Try.func14, Try.ntmps14
  go_wp2
  refine wp_loop_rounds 5 ?_
  rw [rounds_succ]
  go_wp2_with (go_at_call 28; refine (specApart _ _ _ (by omega) (by omega) (by omega) (by omega)).mono ?_; rintro e w' ⟨rfl, rfl⟩)
  rw [rounds_succ]
  go_wp2_with (go_at_call 28; refine (specApart _ _ _ (by omega) (by omega) (by omega) (by omega)).mono ?_; rintro e w' ⟨rfl, rfl⟩)
  rw [rounds_succ]
  go_wp2_with (go_at_call 28; refine (specApart _ _ _ (by omega) (by omega) (by omega) (by omega)).mono ?_; rintro e w' ⟨rfl, rfl⟩)
  rw [rounds_succ]
  go_wp2_with (go_at_call 28; refine (specApart _ _ _ (by omega) (by omega) (by omega) (by omega)).mono ?_; rintro e w' ⟨rfl, rfl⟩)
  rw [rounds_succ]
  go_wp2_with fail
  go_ret
  exact ⟨rfl, ((Below.refl _ _).alloc (Nat.le_refl _) _).alloc (by simp) _⟩
end Go.Proofs.Ytbehpaclnpildaa
