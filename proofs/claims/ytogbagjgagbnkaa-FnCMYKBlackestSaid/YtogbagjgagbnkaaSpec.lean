/- The contracts of the reference's small functions: Luma, Primary, Near, Apart, and of apart. -/
import Derived.Test.YtogbagjgagbnkaaRows
import Derived.Test.YtogbagjgagbnkaaPlain
import Derived.Test.YtogbagjgagbnkaaBase
import Derived.WalkKit
import Derived.ProofKit
import Derived.OpenShut
import Derived.LoopN
import Derived.Lib.MinMax
namespace Go.Proofs.Ytogbagjgagbnkaa
open Go.ChangeShapes Go.WideShapes Go.ChangeAt Go.RowKit Plain
set_option linter.unusedVariables false

theorem specLuma (r g b : Int) (w : World) (hr0 : 0 ≤ r) (hr1 : r ≤ 255) (hg0 : 0 ≤ g) (hg1 : g ≤ 255) (hb0 : 0 ≤ b) (hb1 : b ≤ 255) :
    Calls Try.prog 15 #[.int .i64 r, .int .i64 g, .int .i64 b] w fun e w' => e = .returned (.agg #[.int .i64 (29900 * r + 58700 * g + 11400 * b), .int .i64 (-16870 * r - 33130 * g + 50000 * b + 12800000), .int .i64 (50000 * r - 41870 * g - 8130 * b + 12800000)]) ∧ Below w.heap.size w w' := by
  go_enter Try.func15, Try.ntmps15
  go_wp2
  refine bodyPost_ret (v := .agg #[.int .i64 (29900 * r + 58700 * g + 11400 * b), .int .i64 (-16870 * r - 33130 * g + 50000 * b + 12800000), .int .i64 (50000 * r - 41870 * g - 8130 * b + 12800000)]) (by simp [results, Try.results15, go_sem]) rfl ⟨rfl, ?_⟩
  exact (Below.refl _ _).alloc (Nat.le_refl _) _

theorem specNear (n x h : Int) (w : World) (hn0 : 0 ≤ n) (hn1 : n ≤ 65535) (hx0 : -1000000000 ≤ x) (hx1 : x ≤ 1000000000) (hh0 : 0 ≤ h) (hh1 : h ≤ 1000) (H : near n x h) :
    Calls Try.prog 16 #[.int .i64 n, .int .i64 x, .int .i64 h] w fun e w' => e = .returned (.bool true) ∧ w = w' := by
  have h1 : -h * 1000 ≤ n * 100000 - min (max x 0) 25500000 := H.1
  have h2 : n * 100000 - min (max x 0) 25500000 ≤ h * 1000 := H.2
  clear H
  go_enter Try.func16, Try.ntmps16
  go_wp2
  go_ret
  exact ⟨rfl, rfl⟩

set_option maxHeartbeats 1000000 in
theorem specPrimary (y cb cr : Int) (w : World) (hy0 : 0 ≤ y) (hy1 : y ≤ 255) (hb0 : 0 ≤ cb) (hb1 : cb ≤ 255) (hr0 : 0 ≤ cr) (hr1 : cr ≤ 255) :
    Calls Try.prog 18 #[.int .i64 y, .int .i64 cb, .int .i64 cr] w fun e w' => e = .returned (.agg #[.int .i64 (clamp (100000 * y + 140200 * (cr - 128))), .int .i64 (clamp (100000 * y - 34414 * (cb - 128) - 71414 * (cr - 128))), .int .i64 (clamp (100000 * y + 177200 * (cb - 128)))]) ∧ Below w.heap.size w w' := by
  have i0 : ∀ (x0 x1 x2 : Value) (w : World), (Instr.index 30 (.agg #[x0, x1, x2]) (.int .i64 0)).run Try.prog w = .ok x0 w := fun _ _ _ _ => by kernel_rfl
  have i1 : ∀ (x0 x1 x2 : Value) (w : World), (Instr.index 30 (.agg #[x0, x1, x2]) (.int .i64 1)).run Try.prog w = .ok x1 w := fun _ _ _ _ => by kernel_rfl
  have i2 : ∀ (x0 x1 x2 : Value) (w : World), (Instr.index 30 (.agg #[x0, x1, x2]) (.int .i64 2)).run Try.prog w = .ok x2 w := fun _ _ _ _ => by kernel_rfl
  go_enter Try.func18, Try.ntmps18
  go_wp2
  refine wp_loop_rounds 4 ?_
  rw [rounds_succ]
  go_wp2
  rw [rounds_succ]
  go_wp2
  rw [rounds_succ]
  go_wp2
  rw [rounds_succ]
  go_wp2
  refine bodyPost_ret (v := .agg #[.int .i64 (clamp (100000 * y + 140200 * (cr - 128))), .int .i64 (clamp (100000 * y - 34414 * (cb - 128) - 71414 * (cr - 128))), .int .i64 (clamp (100000 * y + 177200 * (cb - 128)))]) (by simp [results, Try.results18, go_sem]; exact ⟨rfl, rfl, rfl⟩) rfl ⟨rfl, ?_⟩
  exact ((Below.refl _ _).alloc (Nat.le_refl _) _).alloc (by simp) _

theorem specApart (x y : Int) (w : World) (hx0 : 0 ≤ x) (hx1 : x ≤ 4294967295) (hy0 : 0 ≤ y) (hy1 : y ≤ 4294967295) :
    Calls Try.prog 21 #[.int .u32 x, .int .u32 y] w fun e w' => e = .returned (.int .i64 (max (x - y) (y - x))) ∧ w = w' := by
  go_enter Try.func21, Try.ntmps21
  go_wp2
  go_ret
  exact ⟨rfl, rfl⟩

set_option maxHeartbeats 1000000 in
theorem lawsApart (x0 x1 x2 y0 y1 y2 m : Int) (w : World) (hx0 : 0 ≤ x0) (gx0 : x0 ≤ 255) (hx1 : 0 ≤ x1) (gx1 : x1 ≤ 255) (hx2 : 0 ≤ x2) (gx2 : x2 ≤ 255) (hy0 : 0 ≤ y0) (gy0 : y0 ≤ 255) (hy1 : 0 ≤ y1) (gy1 : y1 ≤ 255) (hy2 : 0 ≤ y2) (gy2 : y2 ≤ 255)
    (m0 : max (x0 - y0) (y0 - x0) ≤ m) (m1 : max (x1 - y1) (y1 - x1) ≤ m) (m2 : max (x2 - y2) (y2 - x2) ≤ m) :
    Calls Try.prog 13 #[.agg #[.int .u8 x0, .int .u8 x1, .int .u8 x2], .agg #[.int .u8 y0, .int .u8 y1, .int .u8 y2], .int .i64 m] w fun e w' => e = .returned (.bool true) ∧ Below w.heap.size w w' := by
  have i0 : ∀ (x0 x1 x2 : Value) (w : World), (Instr.index 22 (.agg #[x0, x1, x2]) (.int .i64 0)).run Try.prog w = .ok x0 w := fun _ _ _ _ => by kernel_rfl
  have i1 : ∀ (x0 x1 x2 : Value) (w : World), (Instr.index 22 (.agg #[x0, x1, x2]) (.int .i64 1)).run Try.prog w = .ok x1 w := fun _ _ _ _ => by kernel_rfl
  have i2 : ∀ (x0 x1 x2 : Value) (w : World), (Instr.index 22 (.agg #[x0, x1, x2]) (.int .i64 2)).run Try.prog w = .ok x2 w := fun _ _ _ _ => by kernel_rfl
  go_enter Try.func13, Try.ntmps13
  go_wp2
  refine wp_loop_rounds 4 ?_
  rw [rounds_succ]
  go_wp2_with (go_at_call 21; refine (specApart _ _ _ (by omega) (by omega) (by omega) (by omega)).mono ?_; rintro e w' ⟨rfl, rfl⟩)
  rw [rounds_succ]
  go_wp2_with (go_at_call 21; refine (specApart _ _ _ (by omega) (by omega) (by omega) (by omega)).mono ?_; rintro e w' ⟨rfl, rfl⟩)
  rw [rounds_succ]
  go_wp2_with (go_at_call 21; refine (specApart _ _ _ (by omega) (by omega) (by omega) (by omega)).mono ?_; rintro e w' ⟨rfl, rfl⟩)
  rw [rounds_succ]
  go_wp2_with fail
  go_ret
  exact ⟨rfl, ((Below.refl _ _).alloc (Nat.le_refl _) _).alloc (by simp) _⟩
end Go.Proofs.Ytogbagjgagbnkaa
