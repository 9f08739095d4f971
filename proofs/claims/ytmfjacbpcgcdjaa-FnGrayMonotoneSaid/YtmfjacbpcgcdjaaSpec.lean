/- The contracts of the reference's small functions: Luma, Primary, Near, Apart, and of apart. -/
import Derived.Test.YtmfjacbpcgcdjaaRows
import Derived.Test.YtmfjacbpcgcdjaaPlain
import Derived.Test.YtmfjacbpcgcdjaaBase
import Derived.WalkKit
import Derived.ProofKit
import Derived.OpenShut
import Derived.LoopN
import Derived.Lib.MinMax
namespace Go.Proofs.Ytmfjacbpcgcdjaa
open Go.ChangeShapes Go.WideShapes Go.ChangeAt Go.RowKit Plain
set_option linter.unusedVariables false


theorem specNear (n x h : Int) (w : World) (hn0 : 0 ≤ n) (hn1 : n ≤ 65535) (hx0 : -1000000000 ≤ x) (hx1 : x ≤ 1000000000) (hh0 : 0 ≤ h) (hh1 : h ≤ 1000) (H : near n x h) :
    Calls Try.prog 23 #[.int .i64 n, .int .i64 x, .int .i64 h] w fun e w' => e = .returned (.bool true) ∧ w = w' := by
  have h1 : -h * 1000 ≤ n * 100000 - min (max x 0) 25500000 := H.1
  have h2 : n * 100000 - min (max x 0) 25500000 ≤ h * 1000 := H.2
  clear H
  go_enter Try.func23, Try.ntmps23
  go_wp2
  go_ret
  exact ⟨rfl, rfl⟩

set_option maxHeartbeats 1000000 in
theorem specPrimary (y cb cr : Int) (w : World) (hy0 : 0 ≤ y) (hy1 : y ≤ 255) (hb0 : 0 ≤ cb) (hb1 : cb ≤ 255) (hr0 : 0 ≤ cr) (hr1 : cr ≤ 255) :
    Calls Try.prog 22 #[.int .i64 y, .int .i64 cb, .int .i64 cr] w fun e w' => e = .returned (.agg #[.int .i64 (clamp (100000 * y + 140200 * (cr - 128))), .int .i64 (clamp (100000 * y - 34414 * (cb - 128) - 71414 * (cr - 128))), .int .i64 (clamp (100000 * y + 177200 * (cb - 128)))]) ∧ Below w.heap.size w w' := by
  have i0 : ∀ (x0 x1 x2 : Value) (w : World), (Instr.index 37 (.agg #[x0, x1, x2]) (.int .i64 0)).run Try.prog w = .ok x0 w := fun _ _ _ _ => by kernel_rfl
  have i1 : ∀ (x0 x1 x2 : Value) (w : World), (Instr.index 37 (.agg #[x0, x1, x2]) (.int .i64 1)).run Try.prog w = .ok x1 w := fun _ _ _ _ => by kernel_rfl
  have i2 : ∀ (x0 x1 x2 : Value) (w : World), (Instr.index 37 (.agg #[x0, x1, x2]) (.int .i64 2)).run Try.prog w = .ok x2 w := fun _ _ _ _ => by kernel_rfl
  go_enter Try.func22, Try.ntmps22
  go_wp2
  refine wp_loop_rounds 4 ?_
  rw [rounds_succ]
  go_wp2
  rw [rounds_succ]
  go_wp2
  rw [rounds_succ]
  go_wp2
  rw [rounds_succ]
  go_wp2
  refine bodyPost_ret (v := .agg #[.int .i64 (clamp (100000 * y + 140200 * (cr - 128))), .int .i64 (clamp (100000 * y - 34414 * (cb - 128) - 71414 * (cr - 128))), .int .i64 (clamp (100000 * y + 177200 * (cb - 128)))]) (by simp [results, Try.results22, go_sem]; exact ⟨rfl, rfl, rfl⟩) rfl ⟨rfl, ?_⟩
  exact ((Below.refl _ _).alloc (Nat.le_refl _) _).alloc (by simp) _

theorem specApart (x y : Int) (w : World) (hx0 : 0 ≤ x) (hx1 : x ≤ 4294967295) (hy0 : 0 ≤ y) (hy1 : y ≤ 4294967295) :
    Calls Try.prog 28 #[.int .u32 x, .int .u32 y] w fun e w' => e = .returned (.int .i64 (max (x - y) (y - x))) ∧ w = w' := by
  go_enter Try.func28, Try.ntmps28
  go_wp2
  go_ret
  exact ⟨rfl, rfl⟩

end Go.Proofs.Ytmfjacbpcgcdjaa
