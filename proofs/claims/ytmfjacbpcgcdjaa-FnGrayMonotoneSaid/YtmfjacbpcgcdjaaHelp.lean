/- The contracts of the laws' small helpers. -/
import Derived.Test.YtmfjacbpcgcdjaaColor
import Derived.Test.YtmfjacbpcgcdjaaEqArr
import Derived.Test.YtmfjacbpcgcdjaaSpec
import Derived.WalkKit
import Derived.ProofKit
import Derived.OpenShut
import Derived.WalkLawsBesides
import Derived.LoopN
import Derived.Lib.MinMax
namespace Go.Proofs.Ytmfjacbpcgcdjaa
open Go.ChangeShapes Go.WideShapes Go.ChangeAt Go.RowKit Plain
set_option linter.unusedVariables false

theorem lawsWhite (w : World) : Calls Try.prog 16 #[] w fun e w' => e = .returned (.bool true) ∧ Below w.heap.size w w' := by
  have hv : valid 7 65535 0 0 0 := by unfold valid proper; omega
  have V := Lib.hid (fun w => implValues 7 65535 0 0 0 w hv)
  have hq := eqArr4
  clear hv
  go_enter Try.func16, Try.ntmps16
  go_wp2_with fail
  refine (V.out _).mono ?_
  rintro e w1 ⟨rfl, b1⟩
  rw [show vR 7 65535 0 0 0 = 65535 from rfl, show vG 7 65535 0 0 0 = 65535 from rfl, show vB 7 65535 0 0 0 = 65535 from rfl, show vA 7 65535 0 0 0 = 65535 from rfl]
  go_wp2_with fail
  go_ret
  exact ⟨rfl, by repeat (first | exact Below.refl _ _ | refine laterAlloc ?_ _ | refine Below.drew ?_ | refine below_drewN ?_ _ | refine later (by assumption) ?_)⟩

set_option maxHeartbeats 1000000 in
theorem lawsWithin (x0 x1 x2 x3 y0 y1 y2 y3 m : Int) (w : World) (hx0 : 0 ≤ x0) (gx0 : x0 ≤ 65535) (hx1 : 0 ≤ x1) (gx1 : x1 ≤ 65535) (hx2 : 0 ≤ x2) (gx2 : x2 ≤ 65535) (hx3 : 0 ≤ x3) (gx3 : x3 ≤ 65535) (hy0 : 0 ≤ y0) (gy0 : y0 ≤ 65535) (hy1 : 0 ≤ y1) (gy1 : y1 ≤ 65535) (hy2 : 0 ≤ y2) (gy2 : y2 ≤ 65535) (hy3 : 0 ≤ y3) (gy3 : y3 ≤ 65535)
    (m0 : max (x0 - y0) (y0 - x0) ≤ m) (m1 : max (x1 - y1) (y1 - x1) ≤ m) (m2 : max (x2 - y2) (y2 - x2) ≤ m) (m3 : max (x3 - y3) (y3 - x3) ≤ m) :
    Calls Try.prog 17 #[.agg #[.int .u32 x0, .int .u32 x1, .int .u32 x2, .int .u32 x3], .agg #[.int .u32 y0, .int .u32 y1, .int .u32 y2, .int .u32 y3], .int .i64 m] w fun e w' => e = .returned (.bool true) ∧ Below w.heap.size w w' := by
  have i0 : ∀ (x0 x1 x2 x3 : Value) (w : World), (Instr.index 30 (.agg #[x0, x1, x2, x3]) (.int .i64 0)).run Try.prog w = .ok x0 w := fun _ _ _ _ _ => by kernel_rfl
  have i1 : ∀ (x0 x1 x2 x3 : Value) (w : World), (Instr.index 30 (.agg #[x0, x1, x2, x3]) (.int .i64 1)).run Try.prog w = .ok x1 w := fun _ _ _ _ _ => by kernel_rfl
  have i2 : ∀ (x0 x1 x2 x3 : Value) (w : World), (Instr.index 30 (.agg #[x0, x1, x2, x3]) (.int .i64 2)).run Try.prog w = .ok x2 w := fun _ _ _ _ _ => by kernel_rfl
  have i3 : ∀ (x0 x1 x2 x3 : Value) (w : World), (Instr.index 30 (.agg #[x0, x1, x2, x3]) (.int .i64 3)).run Try.prog w = .ok x3 w := fun _ _ _ _ _ => by kernel_rfl
  go_enter Try.func17, Try.ntmps17
  go_wp2
  refine wp_loop_rounds 5 ?_
  rw [rounds_succ]
  go_wp2_with (go_at_call 28; refine (specApart _ _ _ (by omega) (by omega) (by omega) (by omega)).mono ?_; rintro e w' ⟨rfl, rfl⟩)
  rw [rounds_succ]
  go_wp2_with (go_at_call 28; refine (specApart _ _ _ (by omega) (by omega) (by omega) (by omega)).mono ?_; rintro e w' ⟨rfl, rfl⟩)
  rw [rounds_succ]
  go_wp2_with (go_at_call 28; refine (specApart _ _ _ (by omega) (by omega) (by omega) (by omega)).mono ?_; rintro e w' ⟨rfl, rfl⟩)
  rw [rounds_succ]
  go_wp2_with (go_at_call 28; refine (specApart _ _ _ (by omega) (by omega) (by omega) (by omega)).mono ?_; rintro e w' ⟨rfl, rfl⟩)
  rw [rounds_succ]
  go_wp2_with fail
  go_ret
  exact ⟨rfl, by repeat (first | exact Below.refl _ _ | refine laterAlloc ?_ _ | refine Below.drew ?_ | refine below_drewN ?_ _ | refine later (by assumption) ?_)⟩

theorem lawsIsModel_yes (m : Int) (w : World) (h0 : 0 ≤ m) (h1 : m < 11) : Calls Try.prog 20 #[.int .i64 m] w fun e w' => e = .returned (.bool true) ∧ w = w' := by
  go_enter Try.func20, Try.ntmps20
  go_wp2
  go_ret
  exact ⟨rfl, rfl⟩
theorem lawsIsModel_no (m : Int) (w : World) (h : m < 0 ∨ 11 ≤ m) : Calls Try.prog 20 #[.int .i64 m] w fun e w' => e = .returned (.bool false) ∧ w = w' := by
  rcases h with h | h
  · go_enter Try.func20, Try.ntmps20
    go_wp2
    go_ret
    exact ⟨rfl, rfl⟩
  · have e1 : decide (m < 11) = false := decide_eq_false (by omega)
    go_enter Try.func20, Try.ntmps20
    go_wp2
    go_ret
    exact ⟨rfl, rfl⟩

set_option maxHeartbeats 1000000 in
theorem lawsPremultiplied (x0 x1 x2 x3 : Int) (w : World) (h0 : x0 ≤ x3) (h1 : x1 ≤ x3) (h2 : x2 ≤ x3) (h3 : x3 ≤ 65535) :
    Calls Try.prog 21 #[.agg #[.int .u32 x0, .int .u32 x1, .int .u32 x2, .int .u32 x3]] w fun e w' => e = .returned (.bool true) ∧ Below w.heap.size w w' := by
  go_enter Try.func21, Try.ntmps21
  go_wp2
  go_ret
  exact ⟨rfl, by repeat (first | exact Below.refl _ _ | refine laterAlloc ?_ _ | refine Below.drew ?_ | refine below_drewN ?_ _ | refine later (by assumption) ?_)⟩

theorem lawsOpaque (r g b : Int) (w : World) (hr0 : 0 ≤ r) (hr1 : r ≤ 255) (hg0 : 0 ≤ g) (hg1 : g ≤ 255) (hb0 : 0 ≤ b) (hb1 : b ≤ 255) :
    Calls Try.prog 24 #[.int .u8 r, .int .u8 g, .int .u8 b] w fun e w' => e = .returned (.agg #[.int .i64 0, .int .u16 r, .int .u16 g, .int .u16 b, .int .u16 255]) ∧ Below w.heap.size w w' := by
  go_enter Try.func24, Try.ntmps24
  go_wp2
  refine bodyPost_ret (v := .agg #[.int .i64 0, .int .u16 r, .int .u16 g, .int .u16 b, .int .u16 255]) (by simp [results, Try.results24, go_sem]) rfl ⟨rfl, ?_⟩
  exact laterAlloc (Below.refl _ _) _

theorem lawsThree (k a b c d : Int) (w : World) (ha0 : 0 ≤ a) (ha1 : a ≤ 255) (hb0 : 0 ≤ b) (hb1 : b ≤ 255) (hc0 : 0 ≤ c) (hc1 : c ≤ 255) :
    Calls Try.prog 25 #[.agg #[.int .i64 k, .int .u16 a, .int .u16 b, .int .u16 c, .int .u16 d]] w fun e w' => e = .returned (.agg #[.int .u8 a, .int .u8 b, .int .u8 c]) ∧ Below w.heap.size w w' := by
  go_enter Try.func25, Try.ntmps25
  go_wp2
  refine bodyPost_ret (v := .agg #[.int .u8 a, .int .u8 b, .int .u8 c]) (by simp [results, Try.results25, go_sem]) rfl ⟨rfl, ?_⟩
  exact laterAlloc (laterAlloc (Below.refl _ _) _) _
end Go.Proofs.Ytmfjacbpcgcdjaa
