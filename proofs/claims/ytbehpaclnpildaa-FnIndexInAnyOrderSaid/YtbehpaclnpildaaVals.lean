/- The contracts of the RGBA methods of the eleven types: each returns the values. -/
import Derived.Test.YtbehpaclnpildaaRows
import Derived.Test.YtbehpaclnpildaaPlain
import Derived.Test.YtbehpaclnpildaaPlainCol
import Derived.Test.YtbehpaclnpildaaBase
import Derived.Test.YtbehpaclnpildaaBits
import Derived.WalkKit
import Derived.ProofKit
import Derived.OpenShut
import Derived.Outline
import Derived.WalkLawsBesides
import Derived.Deep.QuietTactic
import Derived.BigQuiet
import Derived.Lib.Hide
namespace Go.Proofs.Ytbehpaclnpildaa
open Go.ChangeShapes Go.WideShapes Go.ChangeAt Go.RowKit Plain
set_option linter.unusedVariables false

set_option maxHeartbeats 1000000 in
theorem rgba_RGBA (a b c d : Int) (w : World) (ha0 : 0 ≤ a) (ha1 : a ≤ 255) (hb0 : 0 ≤ b) (hb1 : b ≤ 255) (hc0 : 0 ≤ c) (hc1 : c ≤ 255) (hd0 : 0 ≤ d) (hd1 : d ≤ 255) :
    Calls Try.prog 52 #[.agg #[.int .u8 a, .int .u8 b, .int .u8 c, .int .u8 d]] w fun e w' => e = .returned (.tuple #[.int .u32 (vR 0 a b c d), .int .u32 (vG 0 a b c d), .int .u32 (vB 0 a b c d), .int .u32 (vA 0 a b c d)]) ∧ Below w.heap.size w w' := by
  have oa := or_twice ha0 ha1
  have ob := or_twice hb0 hb1
  have oc := or_twice hc0 hc1
  have od := or_twice hd0 hd1
  go_enter Try.func52, Try.ntmps52
  go_wp2
  refine bodyPost_ret (results_tmp4 rfl _ _ _) rfl ?_
  exact ⟨rfl, (Below.refl _ _).alloc (Nat.le_refl _) _⟩

set_option maxHeartbeats 1000000 in
theorem rgba_RGBA64 (a b c d : Int) (w : World) (ha0 : 0 ≤ a) (ha1 : a ≤ 65535) (hb0 : 0 ≤ b) (hb1 : b ≤ 65535) (hc0 : 0 ≤ c) (hc1 : c ≤ 65535) (hd0 : 0 ≤ d) (hd1 : d ≤ 65535) :
    Calls Try.prog 53 #[.agg #[.int .u16 a, .int .u16 b, .int .u16 c, .int .u16 d]] w fun e w' => e = .returned (.tuple #[.int .u32 (vR 1 a b c d), .int .u32 (vG 1 a b c d), .int .u32 (vB 1 a b c d), .int .u32 (vA 1 a b c d)]) ∧ Below w.heap.size w w' := by
  go_enter Try.func53, Try.ntmps53
  go_wp2
  go_quiet (fail)
  go_wp2
  refine bodyPost_ret (results_tmp4 rfl _ _ _) rfl ?_
  exact ⟨rfl, below_drewN ((Below.refl _ _).alloc (Nat.le_refl _) _) _⟩

set_option maxHeartbeats 1000000 in
theorem rgba_NRGBA (a b c d : Int) (w : World) (ha0 : 0 ≤ a) (ha1 : a ≤ 255) (hb0 : 0 ≤ b) (hb1 : b ≤ 255) (hc0 : 0 ≤ c) (hc1 : c ≤ 255) (hd0 : 0 ≤ d) (hd1 : d ≤ 255) :
    Calls Try.prog 54 #[.agg #[.int .u8 a, .int .u8 b, .int .u8 c, .int .u8 d]] w fun e w' => e = .returned (.tuple #[.int .u32 (vR 2 a b c d), .int .u32 (vG 2 a b c d), .int .u32 (vB 2 a b c d), .int .u32 (vA 2 a b c d)]) ∧ Below w.heap.size w w' := by
  have oa := or_twice ha0 ha1
  have ob := or_twice hb0 hb1
  have oc := or_twice hc0 hc1
  have od := or_twice hd0 hd1
  go_enter Try.func54, Try.ntmps54
  go_wp2
  refine bodyPost_ret (results_tmp4 rfl _ _ _) rfl ?_
  exact ⟨rfl, (Below.refl _ _).alloc (Nat.le_refl _) _⟩

set_option maxHeartbeats 1000000 in
theorem rgba_NRGBA64 (a b c d : Int) (w : World) (ha0 : 0 ≤ a) (ha1 : a ≤ 65535) (hb0 : 0 ≤ b) (hb1 : b ≤ 65535) (hc0 : 0 ≤ c) (hc1 : c ≤ 65535) (hd0 : 0 ≤ d) (hd1 : d ≤ 65535) :
    Calls Try.prog 55 #[.agg #[.int .u16 a, .int .u16 b, .int .u16 c, .int .u16 d]] w fun e w' => e = .returned (.tuple #[.int .u32 (vR 3 a b c d), .int .u32 (vG 3 a b c d), .int .u32 (vB 3 a b c d), .int .u32 (vA 3 a b c d)]) ∧ Below w.heap.size w w' := by
  go_enter Try.func55, Try.ntmps55
  go_wp2
  refine bodyPost_ret (results_tmp4 rfl _ _ _) rfl ?_
  exact ⟨rfl, (Below.refl _ _).alloc (Nat.le_refl _) _⟩

set_option maxHeartbeats 1000000 in
theorem rgba_Alpha (a : Int) (w : World) (ha0 : 0 ≤ a) (ha1 : a ≤ 255) :
    Calls Try.prog 56 #[.agg #[.int .u8 a]] w fun e w' => e = .returned (.tuple #[.int .u32 (vR 4 a 0 0 0), .int .u32 (vG 4 a 0 0 0), .int .u32 (vB 4 a 0 0 0), .int .u32 (vA 4 a 0 0 0)]) ∧ Below w.heap.size w w' := by
  have oa := or_twice ha0 ha1
  go_enter Try.func56, Try.ntmps56
  go_wp2
  refine bodyPost_ret (results_tmp4 rfl _ _ _) rfl ?_
  exact ⟨rfl, (Below.refl _ _).alloc (Nat.le_refl _) _⟩

set_option maxHeartbeats 1000000 in
theorem rgba_Alpha16 (a : Int) (w : World) (ha0 : 0 ≤ a) (ha1 : a ≤ 65535) :
    Calls Try.prog 57 #[.agg #[.int .u16 a]] w fun e w' => e = .returned (.tuple #[.int .u32 (vR 5 a 0 0 0), .int .u32 (vG 5 a 0 0 0), .int .u32 (vB 5 a 0 0 0), .int .u32 (vA 5 a 0 0 0)]) ∧ Below w.heap.size w w' := by
  go_enter Try.func57, Try.ntmps57
  go_wp2
  refine bodyPost_ret (results_tmp4 rfl _ _ _) rfl ?_
  exact ⟨rfl, (Below.refl _ _).alloc (Nat.le_refl _) _⟩

set_option maxHeartbeats 1000000 in
theorem rgba_Gray (a : Int) (w : World) (ha0 : 0 ≤ a) (ha1 : a ≤ 255) :
    Calls Try.prog 58 #[.agg #[.int .u8 a]] w fun e w' => e = .returned (.tuple #[.int .u32 (vR 6 a 0 0 0), .int .u32 (vG 6 a 0 0 0), .int .u32 (vB 6 a 0 0 0), .int .u32 (vA 6 a 0 0 0)]) ∧ Below w.heap.size w w' := by
  have oa := or_twice ha0 ha1
  go_enter Try.func58, Try.ntmps58
  go_wp2
  refine bodyPost_ret (results_tmp4 rfl _ _ _) rfl ?_
  exact ⟨rfl, (Below.refl _ _).alloc (Nat.le_refl _) _⟩

set_option maxHeartbeats 1000000 in
theorem rgba_Gray16 (a : Int) (w : World) (ha0 : 0 ≤ a) (ha1 : a ≤ 65535) :
    Calls Try.prog 59 #[.agg #[.int .u16 a]] w fun e w' => e = .returned (.tuple #[.int .u32 (vR 7 a 0 0 0), .int .u32 (vG 7 a 0 0 0), .int .u32 (vB 7 a 0 0 0), .int .u32 (vA 7 a 0 0 0)]) ∧ Below w.heap.size w w' := by
  go_enter Try.func59, Try.ntmps59
  go_wp2
  refine bodyPost_ret (results_tmp4 rfl _ _ _) rfl ?_
  exact ⟨rfl, (Below.refl _ _).alloc (Nat.le_refl _) _⟩

set_option maxHeartbeats 1000000 in
theorem rgba_CMYK (a b c d : Int) (w : World) (ha0 : 0 ≤ a) (ha1 : a ≤ 255) (hb0 : 0 ≤ b) (hb1 : b ≤ 255) (hc0 : 0 ≤ c) (hc1 : c ≤ 255) (hd0 : 0 ≤ d) (hd1 : d ≤ 255) :
    Calls Try.prog 60 #[.agg #[.int .u8 a, .int .u8 b, .int .u8 c, .int .u8 d]] w fun e w' => e = .returned (.tuple #[.int .u32 (vR 8 a b c d), .int .u32 (vG 8 a b c d), .int .u32 (vB 8 a b c d), .int .u32 (vA 8 a b c d)]) ∧ Below w.heap.size w w' := by
  go_enter Try.func60, Try.ntmps60
  go_wp2
  refine bodyPost_ret (results_tmp4 rfl _ _ _) rfl ?_
  exact ⟨rfl, (Below.refl _ _).alloc (Nat.le_refl _) _⟩

set_option maxHeartbeats 1000000 in
theorem rgba_YCbCr (a b c : Int) (w : World) (ha0 : 0 ≤ a) (ha1 : a ≤ 255) (hb0 : 0 ≤ b) (hb1 : b ≤ 255) (hc0 : 0 ≤ c) (hc1 : c ≤ 255) :
    Calls Try.prog 61 #[.agg #[.int .u8 a, .int .u8 b, .int .u8 c]] w fun e w' => e = .returned (.tuple #[.int .u32 (vR 9 a b c 0), .int .u32 (vG 9 a b c 0), .int .u32 (vB 9 a b c 0), .int .u32 (vA 9 a b c 0)]) ∧ Below w.heap.size w w' := by
  go_enter Try.func61, Try.ntmps61
  go_wp2
  all_goals refine bodyPost_ret (results_tmp4 rfl _ _ _) rfl ?_
  all_goals refine ⟨tup4 ?_ ?_ ?_ rfl, (Below.refl _ _).alloc (Nat.le_refl _) _⟩
  all_goals simp only [vR, vG, vB, if_true, if_false, Int.reduceEq]
  all_goals first | ((with_reducible refine in16m ?_); exact top_true (by omega) (by omega) (by assumption)) | ((with_reducible refine out16m ?_ ?_ ?_); omega; omega; exact top_false (by omega) (by omega) (by assumption))

set_option maxHeartbeats 1000000 in
theorem rgba_NYCbCrA (a b c d : Int) (w : World) (ha0 : 0 ≤ a) (ha1 : a ≤ 255) (hb0 : 0 ≤ b) (hb1 : b ≤ 255) (hc0 : 0 ≤ c) (hc1 : c ≤ 255) (hd0 : 0 ≤ d) (hd1 : d ≤ 255) :
    Calls Try.prog 62 #[.agg #[.int .u8 a, .int .u8 b, .int .u8 c, .int .u8 d]] w fun e w' => e = .returned (.tuple #[.int .u32 (vR 10 a b c d), .int .u32 (vG 10 a b c d), .int .u32 (vB 10 a b c d), .int .u32 (vA 10 a b c d)]) ∧ Below w.heap.size w w' := by
  go_enter Try.func62, Try.ntmps62
  go_wp2
  all_goals refine bodyPost_ret (results_tmp4 rfl _ _ _) rfl ?_
  all_goals refine ⟨tup4 ?_ ?_ ?_ rfl, (Below.refl _ _).alloc (Nat.le_refl _) _⟩
  all_goals simp only [vR, vG, vB, if_false, Int.reduceEq]
  all_goals first | ((with_reducible refine in16s ?_); exact top_true (by omega) (by omega) (by assumption)) | ((with_reducible refine out16s ?_ ?_ ?_); omega; omega; exact top_false (by omega) (by omega) (by assumption))
end Go.Proofs.Ytbehpaclnpildaa
