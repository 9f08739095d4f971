/- The contracts of the reference's sizes, Proper and Valid. -/
import Derived.Test.YtbehpaclnpildaaRows
import Derived.Test.YtbehpaclnpildaaPlainCol
import Derived.Test.YtbehpaclnpildaaBase
import Derived.WalkKit
import Derived.ProofKit
import Derived.OpenShut
import Derived.Outline
import Derived.WalkLawsBesides
import Derived.LoopN
import Derived.Lib.Hide
namespace Go.Proofs.Ytbehpaclnpildaa
open Go.ChangeShapes Go.WideShapes Go.ChangeAt Go.RowKit Plain
set_option linter.unusedVariables false

theorem sizes_0 (w : World) : Calls Try.prog 35 #[.int .i64 0] w fun e w' => e = .returned (.tuple #[.int .i64 4, .int .u16 255]) ∧ w = w' := by
  go_enter Try.func35, Try.ntmps35
  go_wp2
  go_ret2
  exact ⟨rfl, rfl⟩

theorem sizes_1 (w : World) : Calls Try.prog 35 #[.int .i64 1] w fun e w' => e = .returned (.tuple #[.int .i64 4, .int .u16 65535]) ∧ w = w' := by
  go_enter Try.func35, Try.ntmps35
  go_wp2
  go_ret2
  exact ⟨rfl, rfl⟩

theorem sizes_2 (w : World) : Calls Try.prog 35 #[.int .i64 2] w fun e w' => e = .returned (.tuple #[.int .i64 4, .int .u16 255]) ∧ w = w' := by
  go_enter Try.func35, Try.ntmps35
  go_wp2
  go_ret2
  exact ⟨rfl, rfl⟩

theorem sizes_3 (w : World) : Calls Try.prog 35 #[.int .i64 3] w fun e w' => e = .returned (.tuple #[.int .i64 4, .int .u16 65535]) ∧ w = w' := by
  go_enter Try.func35, Try.ntmps35
  go_wp2
  go_ret2
  exact ⟨rfl, rfl⟩

theorem sizes_4 (w : World) : Calls Try.prog 35 #[.int .i64 4] w fun e w' => e = .returned (.tuple #[.int .i64 1, .int .u16 255]) ∧ w = w' := by
  go_enter Try.func35, Try.ntmps35
  go_wp2
  go_ret2
  exact ⟨rfl, rfl⟩

theorem sizes_5 (w : World) : Calls Try.prog 35 #[.int .i64 5] w fun e w' => e = .returned (.tuple #[.int .i64 1, .int .u16 65535]) ∧ w = w' := by
  go_enter Try.func35, Try.ntmps35
  go_wp2
  go_ret2
  exact ⟨rfl, rfl⟩

theorem sizes_6 (w : World) : Calls Try.prog 35 #[.int .i64 6] w fun e w' => e = .returned (.tuple #[.int .i64 1, .int .u16 255]) ∧ w = w' := by
  go_enter Try.func35, Try.ntmps35
  go_wp2
  go_ret2
  exact ⟨rfl, rfl⟩

theorem sizes_7 (w : World) : Calls Try.prog 35 #[.int .i64 7] w fun e w' => e = .returned (.tuple #[.int .i64 1, .int .u16 65535]) ∧ w = w' := by
  go_enter Try.func35, Try.ntmps35
  go_wp2
  go_ret2
  exact ⟨rfl, rfl⟩

theorem sizes_8 (w : World) : Calls Try.prog 35 #[.int .i64 8] w fun e w' => e = .returned (.tuple #[.int .i64 4, .int .u16 255]) ∧ w = w' := by
  go_enter Try.func35, Try.ntmps35
  go_wp2
  go_ret2
  exact ⟨rfl, rfl⟩

theorem sizes_9 (w : World) : Calls Try.prog 35 #[.int .i64 9] w fun e w' => e = .returned (.tuple #[.int .i64 3, .int .u16 255]) ∧ w = w' := by
  go_enter Try.func35, Try.ntmps35
  go_wp2
  go_ret2
  exact ⟨rfl, rfl⟩

theorem sizes_10 (w : World) : Calls Try.prog 35 #[.int .i64 10] w fun e w' => e = .returned (.tuple #[.int .i64 4, .int .u16 255]) ∧ w = w' := by
  go_enter Try.func35, Try.ntmps35
  go_wp2
  go_ret2
  exact ⟨rfl, rfl⟩

set_option maxHeartbeats 2000000 in
theorem proper_yes_1_255 (k a b c d : Int) (w : World) (hk0 : 0 ≤ k) (hk1 : k ≤ 10) (ha0 : 0 ≤ a) (ha1 : a ≤ 65535) (hb0 : 0 ≤ b) (hb1 : b ≤ 65535) (hc0 : 0 ≤ c) (hc1 : c ≤ 65535) (hd0 : 0 ≤ d) (hd1 : d ≤ 65535) (o0 : a ≤ 255) (o1 : b = 0) (o2 : c = 0) (o3 : d = 0) (hs : ∀ w, Calls Try.prog 35 #[.int .i64 k] w fun e w' => e = .returned (.tuple #[.int .i64 1, .int .u16 255]) ∧ w = w') :
    Calls Try.prog 31 #[.agg #[.int .i64 k, .int .u16 a, .int .u16 b, .int .u16 c, .int .u16 d]] w fun e w' => e = .returned (.bool true) ∧ Below w.heap.size w w' := by
  have H := Lib.hid hs
  clear hs
  subst b c d
  have i0 : ∀ (x0 x1 x2 x3 : Value) (w : World), (Instr.index 24 (.agg #[x0, x1, x2, x3]) (.int .i64 0)).run Try.prog w = .ok x0 w := fun _ _ _ _ _ => by kernel_rfl
  have i1 : ∀ (x0 x1 x2 x3 : Value) (w : World), (Instr.index 24 (.agg #[x0, x1, x2, x3]) (.int .i64 1)).run Try.prog w = .ok x1 w := fun _ _ _ _ _ => by kernel_rfl
  have i2 : ∀ (x0 x1 x2 x3 : Value) (w : World), (Instr.index 24 (.agg #[x0, x1, x2, x3]) (.int .i64 2)).run Try.prog w = .ok x2 w := fun _ _ _ _ _ => by kernel_rfl
  have i3 : ∀ (x0 x1 x2 x3 : Value) (w : World), (Instr.index 24 (.agg #[x0, x1, x2, x3]) (.int .i64 3)).run Try.prog w = .ok x3 w := fun _ _ _ _ _ => by kernel_rfl
  go_enter Try.func31, Try.ntmps31
  go_wp2_with (go_at_call 35; refine (H.out _).mono ?_; rintro e w' ⟨rfl, rfl⟩)
  refine wp_loop_rounds 5 ?_
  rw [rounds_succ]
  go_wp2_with fail
  rw [rounds_succ]
  go_wp2_with fail
  rw [rounds_succ]
  go_wp2_with fail
  rw [rounds_succ]
  go_wp2_with fail
  rw [rounds_succ]
  go_wp2_with fail
  go_ret
  exact ⟨rfl, by repeat (first | exact Below.refl _ _ | refine laterAlloc ?_ _ | refine Below.drew ?_ | refine below_drewN ?_ _ | refine later (by assumption) ?_)⟩

set_option maxHeartbeats 2000000 in
theorem proper_no_1_255 (k a b c d : Int) (w : World) (hk0 : 0 ≤ k) (hk1 : k ≤ 10) (ha0 : 0 ≤ a) (ha1 : a ≤ 65535) (hb0 : 0 ≤ b) (hb1 : b ≤ 65535) (hc0 : 0 ≤ c) (hc1 : c ≤ 65535) (hd0 : 0 ≤ d) (hd1 : d ≤ 65535) (hno : 255 < a ∨ 0 < b ∨ 0 < c ∨ 0 < d) (hs : ∀ w, Calls Try.prog 35 #[.int .i64 k] w fun e w' => e = .returned (.tuple #[.int .i64 1, .int .u16 255]) ∧ w = w') :
    Calls Try.prog 31 #[.agg #[.int .i64 k, .int .u16 a, .int .u16 b, .int .u16 c, .int .u16 d]] w fun e w' => e = .returned (.bool false) ∧ Below w.heap.size w w' := by
  have H := Lib.hid hs
  clear hs
  have HN := Lib.hid hno
  clear hno
  have i0 : ∀ (x0 x1 x2 x3 : Value) (w : World), (Instr.index 24 (.agg #[x0, x1, x2, x3]) (.int .i64 0)).run Try.prog w = .ok x0 w := fun _ _ _ _ _ => by kernel_rfl
  have i1 : ∀ (x0 x1 x2 x3 : Value) (w : World), (Instr.index 24 (.agg #[x0, x1, x2, x3]) (.int .i64 1)).run Try.prog w = .ok x1 w := fun _ _ _ _ _ => by kernel_rfl
  have i2 : ∀ (x0 x1 x2 x3 : Value) (w : World), (Instr.index 24 (.agg #[x0, x1, x2, x3]) (.int .i64 2)).run Try.prog w = .ok x2 w := fun _ _ _ _ _ => by kernel_rfl
  have i3 : ∀ (x0 x1 x2 x3 : Value) (w : World), (Instr.index 24 (.agg #[x0, x1, x2, x3]) (.int .i64 3)).run Try.prog w = .ok x3 w := fun _ _ _ _ _ => by kernel_rfl
  go_enter Try.func31, Try.ntmps31
  go_wp2_with (go_at_call 35; refine (H.out _).mono ?_; rintro e w' ⟨rfl, rfl⟩)
  refine wp_loop_rounds 5 ?_
  all_goals try rw [rounds_succ]
  all_goals go_wp2_with fail
  all_goals try rw [rounds_succ]
  all_goals go_wp2_with fail
  all_goals try rw [rounds_succ]
  all_goals go_wp2_with fail
  all_goals try rw [rounds_succ]
  all_goals go_wp2_with fail
  all_goals try rw [rounds_succ]
  all_goals go_wp2_with fail
  all_goals go_ret
  all_goals first | exact ⟨rfl, by repeat (first | exact Below.refl _ _ | refine laterAlloc ?_ _ | refine Below.drew ?_ | refine below_drewN ?_ _ | refine later (by assumption) ?_)⟩ | (exfalso; have hno := HN.out; omega)

set_option maxHeartbeats 2000000 in
theorem proper_yes_1_65535 (k a b c d : Int) (w : World) (hk0 : 0 ≤ k) (hk1 : k ≤ 10) (ha0 : 0 ≤ a) (ha1 : a ≤ 65535) (hb0 : 0 ≤ b) (hb1 : b ≤ 65535) (hc0 : 0 ≤ c) (hc1 : c ≤ 65535) (hd0 : 0 ≤ d) (hd1 : d ≤ 65535) (o0 : a ≤ 65535) (o1 : b = 0) (o2 : c = 0) (o3 : d = 0) (hs : ∀ w, Calls Try.prog 35 #[.int .i64 k] w fun e w' => e = .returned (.tuple #[.int .i64 1, .int .u16 65535]) ∧ w = w') :
    Calls Try.prog 31 #[.agg #[.int .i64 k, .int .u16 a, .int .u16 b, .int .u16 c, .int .u16 d]] w fun e w' => e = .returned (.bool true) ∧ Below w.heap.size w w' := by
  have H := Lib.hid hs
  clear hs
  subst b c d
  have i0 : ∀ (x0 x1 x2 x3 : Value) (w : World), (Instr.index 24 (.agg #[x0, x1, x2, x3]) (.int .i64 0)).run Try.prog w = .ok x0 w := fun _ _ _ _ _ => by kernel_rfl
  have i1 : ∀ (x0 x1 x2 x3 : Value) (w : World), (Instr.index 24 (.agg #[x0, x1, x2, x3]) (.int .i64 1)).run Try.prog w = .ok x1 w := fun _ _ _ _ _ => by kernel_rfl
  have i2 : ∀ (x0 x1 x2 x3 : Value) (w : World), (Instr.index 24 (.agg #[x0, x1, x2, x3]) (.int .i64 2)).run Try.prog w = .ok x2 w := fun _ _ _ _ _ => by kernel_rfl
  have i3 : ∀ (x0 x1 x2 x3 : Value) (w : World), (Instr.index 24 (.agg #[x0, x1, x2, x3]) (.int .i64 3)).run Try.prog w = .ok x3 w := fun _ _ _ _ _ => by kernel_rfl
  go_enter Try.func31, Try.ntmps31
  go_wp2_with (go_at_call 35; refine (H.out _).mono ?_; rintro e w' ⟨rfl, rfl⟩)
  refine wp_loop_rounds 5 ?_
  rw [rounds_succ]
  go_wp2_with fail
  rw [rounds_succ]
  go_wp2_with fail
  rw [rounds_succ]
  go_wp2_with fail
  rw [rounds_succ]
  go_wp2_with fail
  rw [rounds_succ]
  go_wp2_with fail
  go_ret
  exact ⟨rfl, by repeat (first | exact Below.refl _ _ | refine laterAlloc ?_ _ | refine Below.drew ?_ | refine below_drewN ?_ _ | refine later (by assumption) ?_)⟩

set_option maxHeartbeats 2000000 in
theorem proper_no_1_65535 (k a b c d : Int) (w : World) (hk0 : 0 ≤ k) (hk1 : k ≤ 10) (ha0 : 0 ≤ a) (ha1 : a ≤ 65535) (hb0 : 0 ≤ b) (hb1 : b ≤ 65535) (hc0 : 0 ≤ c) (hc1 : c ≤ 65535) (hd0 : 0 ≤ d) (hd1 : d ≤ 65535) (hno : 65535 < a ∨ 0 < b ∨ 0 < c ∨ 0 < d) (hs : ∀ w, Calls Try.prog 35 #[.int .i64 k] w fun e w' => e = .returned (.tuple #[.int .i64 1, .int .u16 65535]) ∧ w = w') :
    Calls Try.prog 31 #[.agg #[.int .i64 k, .int .u16 a, .int .u16 b, .int .u16 c, .int .u16 d]] w fun e w' => e = .returned (.bool false) ∧ Below w.heap.size w w' := by
  have H := Lib.hid hs
  clear hs
  have HN := Lib.hid hno
  clear hno
  have i0 : ∀ (x0 x1 x2 x3 : Value) (w : World), (Instr.index 24 (.agg #[x0, x1, x2, x3]) (.int .i64 0)).run Try.prog w = .ok x0 w := fun _ _ _ _ _ => by kernel_rfl
  have i1 : ∀ (x0 x1 x2 x3 : Value) (w : World), (Instr.index 24 (.agg #[x0, x1, x2, x3]) (.int .i64 1)).run Try.prog w = .ok x1 w := fun _ _ _ _ _ => by kernel_rfl
  have i2 : ∀ (x0 x1 x2 x3 : Value) (w : World), (Instr.index 24 (.agg #[x0, x1, x2, x3]) (.int .i64 2)).run Try.prog w = .ok x2 w := fun _ _ _ _ _ => by kernel_rfl
  have i3 : ∀ (x0 x1 x2 x3 : Value) (w : World), (Instr.index 24 (.agg #[x0, x1, x2, x3]) (.int .i64 3)).run Try.prog w = .ok x3 w := fun _ _ _ _ _ => by kernel_rfl
  go_enter Try.func31, Try.ntmps31
  go_wp2_with (go_at_call 35; refine (H.out _).mono ?_; rintro e w' ⟨rfl, rfl⟩)
  refine wp_loop_rounds 5 ?_
  all_goals try rw [rounds_succ]
  all_goals go_wp2_with fail
  all_goals try rw [rounds_succ]
  all_goals go_wp2_with fail
  all_goals try rw [rounds_succ]
  all_goals go_wp2_with fail
  all_goals try rw [rounds_succ]
  all_goals go_wp2_with fail
  all_goals try rw [rounds_succ]
  all_goals go_wp2_with fail
  all_goals go_ret
  all_goals first | exact ⟨rfl, by repeat (first | exact Below.refl _ _ | refine laterAlloc ?_ _ | refine Below.drew ?_ | refine below_drewN ?_ _ | refine later (by assumption) ?_)⟩ | (exfalso; have hno := HN.out; omega)

set_option maxHeartbeats 2000000 in
theorem proper_yes_3_255 (k a b c d : Int) (w : World) (hk0 : 0 ≤ k) (hk1 : k ≤ 10) (ha0 : 0 ≤ a) (ha1 : a ≤ 65535) (hb0 : 0 ≤ b) (hb1 : b ≤ 65535) (hc0 : 0 ≤ c) (hc1 : c ≤ 65535) (hd0 : 0 ≤ d) (hd1 : d ≤ 65535) (o0 : a ≤ 255) (o1 : b ≤ 255) (o2 : c ≤ 255) (o3 : d = 0) (hs : ∀ w, Calls Try.prog 35 #[.int .i64 k] w fun e w' => e = .returned (.tuple #[.int .i64 3, .int .u16 255]) ∧ w = w') :
    Calls Try.prog 31 #[.agg #[.int .i64 k, .int .u16 a, .int .u16 b, .int .u16 c, .int .u16 d]] w fun e w' => e = .returned (.bool true) ∧ Below w.heap.size w w' := by
  have H := Lib.hid hs
  clear hs
  subst d
  have i0 : ∀ (x0 x1 x2 x3 : Value) (w : World), (Instr.index 24 (.agg #[x0, x1, x2, x3]) (.int .i64 0)).run Try.prog w = .ok x0 w := fun _ _ _ _ _ => by kernel_rfl
  have i1 : ∀ (x0 x1 x2 x3 : Value) (w : World), (Instr.index 24 (.agg #[x0, x1, x2, x3]) (.int .i64 1)).run Try.prog w = .ok x1 w := fun _ _ _ _ _ => by kernel_rfl
  have i2 : ∀ (x0 x1 x2 x3 : Value) (w : World), (Instr.index 24 (.agg #[x0, x1, x2, x3]) (.int .i64 2)).run Try.prog w = .ok x2 w := fun _ _ _ _ _ => by kernel_rfl
  have i3 : ∀ (x0 x1 x2 x3 : Value) (w : World), (Instr.index 24 (.agg #[x0, x1, x2, x3]) (.int .i64 3)).run Try.prog w = .ok x3 w := fun _ _ _ _ _ => by kernel_rfl
  go_enter Try.func31, Try.ntmps31
  go_wp2_with (go_at_call 35; refine (H.out _).mono ?_; rintro e w' ⟨rfl, rfl⟩)
  refine wp_loop_rounds 5 ?_
  rw [rounds_succ]
  go_wp2_with fail
  rw [rounds_succ]
  go_wp2_with fail
  rw [rounds_succ]
  go_wp2_with fail
  rw [rounds_succ]
  go_wp2_with fail
  rw [rounds_succ]
  go_wp2_with fail
  go_ret
  exact ⟨rfl, by repeat (first | exact Below.refl _ _ | refine laterAlloc ?_ _ | refine Below.drew ?_ | refine below_drewN ?_ _ | refine later (by assumption) ?_)⟩

set_option maxHeartbeats 2000000 in
theorem proper_no_3_255 (k a b c d : Int) (w : World) (hk0 : 0 ≤ k) (hk1 : k ≤ 10) (ha0 : 0 ≤ a) (ha1 : a ≤ 65535) (hb0 : 0 ≤ b) (hb1 : b ≤ 65535) (hc0 : 0 ≤ c) (hc1 : c ≤ 65535) (hd0 : 0 ≤ d) (hd1 : d ≤ 65535) (hno : 255 < a ∨ 255 < b ∨ 255 < c ∨ 0 < d) (hs : ∀ w, Calls Try.prog 35 #[.int .i64 k] w fun e w' => e = .returned (.tuple #[.int .i64 3, .int .u16 255]) ∧ w = w') :
    Calls Try.prog 31 #[.agg #[.int .i64 k, .int .u16 a, .int .u16 b, .int .u16 c, .int .u16 d]] w fun e w' => e = .returned (.bool false) ∧ Below w.heap.size w w' := by
  have H := Lib.hid hs
  clear hs
  have HN := Lib.hid hno
  clear hno
  have i0 : ∀ (x0 x1 x2 x3 : Value) (w : World), (Instr.index 24 (.agg #[x0, x1, x2, x3]) (.int .i64 0)).run Try.prog w = .ok x0 w := fun _ _ _ _ _ => by kernel_rfl
  have i1 : ∀ (x0 x1 x2 x3 : Value) (w : World), (Instr.index 24 (.agg #[x0, x1, x2, x3]) (.int .i64 1)).run Try.prog w = .ok x1 w := fun _ _ _ _ _ => by kernel_rfl
  have i2 : ∀ (x0 x1 x2 x3 : Value) (w : World), (Instr.index 24 (.agg #[x0, x1, x2, x3]) (.int .i64 2)).run Try.prog w = .ok x2 w := fun _ _ _ _ _ => by kernel_rfl
  have i3 : ∀ (x0 x1 x2 x3 : Value) (w : World), (Instr.index 24 (.agg #[x0, x1, x2, x3]) (.int .i64 3)).run Try.prog w = .ok x3 w := fun _ _ _ _ _ => by kernel_rfl
  go_enter Try.func31, Try.ntmps31
  go_wp2_with (go_at_call 35; refine (H.out _).mono ?_; rintro e w' ⟨rfl, rfl⟩)
  refine wp_loop_rounds 5 ?_
  all_goals try rw [rounds_succ]
  all_goals go_wp2_with fail
  all_goals try rw [rounds_succ]
  all_goals go_wp2_with fail
  all_goals try rw [rounds_succ]
  all_goals go_wp2_with fail
  all_goals try rw [rounds_succ]
  all_goals go_wp2_with fail
  all_goals try rw [rounds_succ]
  all_goals go_wp2_with fail
  all_goals go_ret
  all_goals first | exact ⟨rfl, by repeat (first | exact Below.refl _ _ | refine laterAlloc ?_ _ | refine Below.drew ?_ | refine below_drewN ?_ _ | refine later (by assumption) ?_)⟩ | (exfalso; have hno := HN.out; omega)

set_option maxHeartbeats 2000000 in
theorem proper_yes_4_255 (k a b c d : Int) (w : World) (hk0 : 0 ≤ k) (hk1 : k ≤ 10) (ha0 : 0 ≤ a) (ha1 : a ≤ 65535) (hb0 : 0 ≤ b) (hb1 : b ≤ 65535) (hc0 : 0 ≤ c) (hc1 : c ≤ 65535) (hd0 : 0 ≤ d) (hd1 : d ≤ 65535) (o0 : a ≤ 255) (o1 : b ≤ 255) (o2 : c ≤ 255) (o3 : d ≤ 255) (hs : ∀ w, Calls Try.prog 35 #[.int .i64 k] w fun e w' => e = .returned (.tuple #[.int .i64 4, .int .u16 255]) ∧ w = w') :
    Calls Try.prog 31 #[.agg #[.int .i64 k, .int .u16 a, .int .u16 b, .int .u16 c, .int .u16 d]] w fun e w' => e = .returned (.bool true) ∧ Below w.heap.size w w' := by
  have H := Lib.hid hs
  clear hs
  have i0 : ∀ (x0 x1 x2 x3 : Value) (w : World), (Instr.index 24 (.agg #[x0, x1, x2, x3]) (.int .i64 0)).run Try.prog w = .ok x0 w := fun _ _ _ _ _ => by kernel_rfl
  have i1 : ∀ (x0 x1 x2 x3 : Value) (w : World), (Instr.index 24 (.agg #[x0, x1, x2, x3]) (.int .i64 1)).run Try.prog w = .ok x1 w := fun _ _ _ _ _ => by kernel_rfl
  have i2 : ∀ (x0 x1 x2 x3 : Value) (w : World), (Instr.index 24 (.agg #[x0, x1, x2, x3]) (.int .i64 2)).run Try.prog w = .ok x2 w := fun _ _ _ _ _ => by kernel_rfl
  have i3 : ∀ (x0 x1 x2 x3 : Value) (w : World), (Instr.index 24 (.agg #[x0, x1, x2, x3]) (.int .i64 3)).run Try.prog w = .ok x3 w := fun _ _ _ _ _ => by kernel_rfl
  go_enter Try.func31, Try.ntmps31
  go_wp2_with (go_at_call 35; refine (H.out _).mono ?_; rintro e w' ⟨rfl, rfl⟩)
  refine wp_loop_rounds 5 ?_
  rw [rounds_succ]
  go_wp2_with fail
  rw [rounds_succ]
  go_wp2_with fail
  rw [rounds_succ]
  go_wp2_with fail
  rw [rounds_succ]
  go_wp2_with fail
  rw [rounds_succ]
  go_wp2_with fail
  go_ret
  exact ⟨rfl, by repeat (first | exact Below.refl _ _ | refine laterAlloc ?_ _ | refine Below.drew ?_ | refine below_drewN ?_ _ | refine later (by assumption) ?_)⟩

set_option maxHeartbeats 2000000 in
theorem proper_no_4_255 (k a b c d : Int) (w : World) (hk0 : 0 ≤ k) (hk1 : k ≤ 10) (ha0 : 0 ≤ a) (ha1 : a ≤ 65535) (hb0 : 0 ≤ b) (hb1 : b ≤ 65535) (hc0 : 0 ≤ c) (hc1 : c ≤ 65535) (hd0 : 0 ≤ d) (hd1 : d ≤ 65535) (hno : 255 < a ∨ 255 < b ∨ 255 < c ∨ 255 < d) (hs : ∀ w, Calls Try.prog 35 #[.int .i64 k] w fun e w' => e = .returned (.tuple #[.int .i64 4, .int .u16 255]) ∧ w = w') :
    Calls Try.prog 31 #[.agg #[.int .i64 k, .int .u16 a, .int .u16 b, .int .u16 c, .int .u16 d]] w fun e w' => e = .returned (.bool false) ∧ Below w.heap.size w w' := by
  have H := Lib.hid hs
  clear hs
  have HN := Lib.hid hno
  clear hno
  have i0 : ∀ (x0 x1 x2 x3 : Value) (w : World), (Instr.index 24 (.agg #[x0, x1, x2, x3]) (.int .i64 0)).run Try.prog w = .ok x0 w := fun _ _ _ _ _ => by kernel_rfl
  have i1 : ∀ (x0 x1 x2 x3 : Value) (w : World), (Instr.index 24 (.agg #[x0, x1, x2, x3]) (.int .i64 1)).run Try.prog w = .ok x1 w := fun _ _ _ _ _ => by kernel_rfl
  have i2 : ∀ (x0 x1 x2 x3 : Value) (w : World), (Instr.index 24 (.agg #[x0, x1, x2, x3]) (.int .i64 2)).run Try.prog w = .ok x2 w := fun _ _ _ _ _ => by kernel_rfl
  have i3 : ∀ (x0 x1 x2 x3 : Value) (w : World), (Instr.index 24 (.agg #[x0, x1, x2, x3]) (.int .i64 3)).run Try.prog w = .ok x3 w := fun _ _ _ _ _ => by kernel_rfl
  go_enter Try.func31, Try.ntmps31
  go_wp2_with (go_at_call 35; refine (H.out _).mono ?_; rintro e w' ⟨rfl, rfl⟩)
  refine wp_loop_rounds 5 ?_
  all_goals try rw [rounds_succ]
  all_goals go_wp2_with fail
  all_goals try rw [rounds_succ]
  all_goals go_wp2_with fail
  all_goals try rw [rounds_succ]
  all_goals go_wp2_with fail
  all_goals try rw [rounds_succ]
  all_goals go_wp2_with fail
  all_goals try rw [rounds_succ]
  all_goals go_wp2_with fail
  all_goals go_ret
  all_goals first | exact ⟨rfl, by repeat (first | exact Below.refl _ _ | refine laterAlloc ?_ _ | refine Below.drew ?_ | refine below_drewN ?_ _ | refine later (by assumption) ?_)⟩ | (exfalso; have hno := HN.out; omega)

set_option maxHeartbeats 2000000 in
theorem proper_yes_4_65535 (k a b c d : Int) (w : World) (hk0 : 0 ≤ k) (hk1 : k ≤ 10) (ha0 : 0 ≤ a) (ha1 : a ≤ 65535) (hb0 : 0 ≤ b) (hb1 : b ≤ 65535) (hc0 : 0 ≤ c) (hc1 : c ≤ 65535) (hd0 : 0 ≤ d) (hd1 : d ≤ 65535) (o0 : a ≤ 65535) (o1 : b ≤ 65535) (o2 : c ≤ 65535) (o3 : d ≤ 65535) (hs : ∀ w, Calls Try.prog 35 #[.int .i64 k] w fun e w' => e = .returned (.tuple #[.int .i64 4, .int .u16 65535]) ∧ w = w') :
    Calls Try.prog 31 #[.agg #[.int .i64 k, .int .u16 a, .int .u16 b, .int .u16 c, .int .u16 d]] w fun e w' => e = .returned (.bool true) ∧ Below w.heap.size w w' := by
  have H := Lib.hid hs
  clear hs
  have i0 : ∀ (x0 x1 x2 x3 : Value) (w : World), (Instr.index 24 (.agg #[x0, x1, x2, x3]) (.int .i64 0)).run Try.prog w = .ok x0 w := fun _ _ _ _ _ => by kernel_rfl
  have i1 : ∀ (x0 x1 x2 x3 : Value) (w : World), (Instr.index 24 (.agg #[x0, x1, x2, x3]) (.int .i64 1)).run Try.prog w = .ok x1 w := fun _ _ _ _ _ => by kernel_rfl
  have i2 : ∀ (x0 x1 x2 x3 : Value) (w : World), (Instr.index 24 (.agg #[x0, x1, x2, x3]) (.int .i64 2)).run Try.prog w = .ok x2 w := fun _ _ _ _ _ => by kernel_rfl
  have i3 : ∀ (x0 x1 x2 x3 : Value) (w : World), (Instr.index 24 (.agg #[x0, x1, x2, x3]) (.int .i64 3)).run Try.prog w = .ok x3 w := fun _ _ _ _ _ => by kernel_rfl
  go_enter Try.func31, Try.ntmps31
  go_wp2_with (go_at_call 35; refine (H.out _).mono ?_; rintro e w' ⟨rfl, rfl⟩)
  refine wp_loop_rounds 5 ?_
  rw [rounds_succ]
  go_wp2_with fail
  rw [rounds_succ]
  go_wp2_with fail
  rw [rounds_succ]
  go_wp2_with fail
  rw [rounds_succ]
  go_wp2_with fail
  rw [rounds_succ]
  go_wp2_with fail
  go_ret
  exact ⟨rfl, by repeat (first | exact Below.refl _ _ | refine laterAlloc ?_ _ | refine Below.drew ?_ | refine below_drewN ?_ _ | refine later (by assumption) ?_)⟩

set_option maxHeartbeats 2000000 in
theorem proper_no_4_65535 (k a b c d : Int) (w : World) (hk0 : 0 ≤ k) (hk1 : k ≤ 10) (ha0 : 0 ≤ a) (ha1 : a ≤ 65535) (hb0 : 0 ≤ b) (hb1 : b ≤ 65535) (hc0 : 0 ≤ c) (hc1 : c ≤ 65535) (hd0 : 0 ≤ d) (hd1 : d ≤ 65535) (hno : 65535 < a ∨ 65535 < b ∨ 65535 < c ∨ 65535 < d) (hs : ∀ w, Calls Try.prog 35 #[.int .i64 k] w fun e w' => e = .returned (.tuple #[.int .i64 4, .int .u16 65535]) ∧ w = w') :
    Calls Try.prog 31 #[.agg #[.int .i64 k, .int .u16 a, .int .u16 b, .int .u16 c, .int .u16 d]] w fun e w' => e = .returned (.bool false) ∧ Below w.heap.size w w' := by
  have H := Lib.hid hs
  clear hs
  have HN := Lib.hid hno
  clear hno
  have i0 : ∀ (x0 x1 x2 x3 : Value) (w : World), (Instr.index 24 (.agg #[x0, x1, x2, x3]) (.int .i64 0)).run Try.prog w = .ok x0 w := fun _ _ _ _ _ => by kernel_rfl
  have i1 : ∀ (x0 x1 x2 x3 : Value) (w : World), (Instr.index 24 (.agg #[x0, x1, x2, x3]) (.int .i64 1)).run Try.prog w = .ok x1 w := fun _ _ _ _ _ => by kernel_rfl
  have i2 : ∀ (x0 x1 x2 x3 : Value) (w : World), (Instr.index 24 (.agg #[x0, x1, x2, x3]) (.int .i64 2)).run Try.prog w = .ok x2 w := fun _ _ _ _ _ => by kernel_rfl
  have i3 : ∀ (x0 x1 x2 x3 : Value) (w : World), (Instr.index 24 (.agg #[x0, x1, x2, x3]) (.int .i64 3)).run Try.prog w = .ok x3 w := fun _ _ _ _ _ => by kernel_rfl
  go_enter Try.func31, Try.ntmps31
  go_wp2_with (go_at_call 35; refine (H.out _).mono ?_; rintro e w' ⟨rfl, rfl⟩)
  refine wp_loop_rounds 5 ?_
  all_goals try rw [rounds_succ]
  all_goals go_wp2_with fail
  all_goals try rw [rounds_succ]
  all_goals go_wp2_with fail
  all_goals try rw [rounds_succ]
  all_goals go_wp2_with fail
  all_goals try rw [rounds_succ]
  all_goals go_wp2_with fail
  all_goals try rw [rounds_succ]
  all_goals go_wp2_with fail
  all_goals go_ret
  all_goals first | exact ⟨rfl, by repeat (first | exact Below.refl _ _ | refine laterAlloc ?_ _ | refine Below.drew ?_ | refine below_drewN ?_ _ | refine later (by assumption) ?_)⟩ | (exfalso; have hno := HN.out; omega)

theorem proper_out (k a b c d : Int) (w : World) (h : k < 0 ∨ 10 < k) : Calls Try.prog 31 #[.agg #[.int .i64 k, .int .u16 a, .int .u16 b, .int .u16 c, .int .u16 d]] w fun e w' => e = .returned (.bool false) ∧ Below w.heap.size w w' := by
  rcases h with h | h
  all_goals
    go_enter Try.func31, Try.ntmps31
    go_wp2_with fail
    go_ret
    exact ⟨rfl, by repeat (first | exact Below.refl _ _ | refine laterAlloc ?_ _ | refine Below.drew ?_ | refine below_drewN ?_ _ | refine later (by assumption) ?_)⟩

theorem specProper_yes (k a b c d : Int) (w : World) (h : proper k a b c d) : Calls Try.prog 31 #[.agg #[.int .i64 k, .int .u16 a, .int .u16 b, .int .u16 c, .int .u16 d]] w fun e w' => e = .returned (.bool true) ∧ Below w.heap.size w w' := by
  have hk := proper_kind h
  unfold proper at h
  rcases hk with rfl | rfl | rfl | rfl | rfl | rfl | rfl | rfl | rfl | rfl | rfl
  · exact proper_yes_4_255 0 a b c d w (by omega) (by omega) (by omega) (by omega) (by omega) (by omega) (by omega) (by omega) (by omega) (by omega) (by omega) (by omega) (by omega) (by omega) sizes_0
  · exact proper_yes_4_65535 1 a b c d w (by omega) (by omega) (by omega) (by omega) (by omega) (by omega) (by omega) (by omega) (by omega) (by omega) (by omega) (by omega) (by omega) (by omega) sizes_1
  · exact proper_yes_4_255 2 a b c d w (by omega) (by omega) (by omega) (by omega) (by omega) (by omega) (by omega) (by omega) (by omega) (by omega) (by omega) (by omega) (by omega) (by omega) sizes_2
  · exact proper_yes_4_65535 3 a b c d w (by omega) (by omega) (by omega) (by omega) (by omega) (by omega) (by omega) (by omega) (by omega) (by omega) (by omega) (by omega) (by omega) (by omega) sizes_3
  · exact proper_yes_1_255 4 a b c d w (by omega) (by omega) (by omega) (by omega) (by omega) (by omega) (by omega) (by omega) (by omega) (by omega) (by omega) (by omega) (by omega) (by omega) sizes_4
  · exact proper_yes_1_65535 5 a b c d w (by omega) (by omega) (by omega) (by omega) (by omega) (by omega) (by omega) (by omega) (by omega) (by omega) (by omega) (by omega) (by omega) (by omega) sizes_5
  · exact proper_yes_1_255 6 a b c d w (by omega) (by omega) (by omega) (by omega) (by omega) (by omega) (by omega) (by omega) (by omega) (by omega) (by omega) (by omega) (by omega) (by omega) sizes_6
  · exact proper_yes_1_65535 7 a b c d w (by omega) (by omega) (by omega) (by omega) (by omega) (by omega) (by omega) (by omega) (by omega) (by omega) (by omega) (by omega) (by omega) (by omega) sizes_7
  · exact proper_yes_4_255 8 a b c d w (by omega) (by omega) (by omega) (by omega) (by omega) (by omega) (by omega) (by omega) (by omega) (by omega) (by omega) (by omega) (by omega) (by omega) sizes_8
  · exact proper_yes_3_255 9 a b c d w (by omega) (by omega) (by omega) (by omega) (by omega) (by omega) (by omega) (by omega) (by omega) (by omega) (by omega) (by omega) (by omega) (by omega) sizes_9
  · exact proper_yes_4_255 10 a b c d w (by omega) (by omega) (by omega) (by omega) (by omega) (by omega) (by omega) (by omega) (by omega) (by omega) (by omega) (by omega) (by omega) (by omega) sizes_10

theorem specProper_no (k a b c d : Int) (w : World) (ha0 : 0 ≤ a) (ha1 : a ≤ 65535) (hb0 : 0 ≤ b) (hb1 : b ≤ 65535) (hc0 : 0 ≤ c) (hc1 : c ≤ 65535) (hd0 : 0 ≤ d) (hd1 : d ≤ 65535) (h : ¬ proper k a b c d) : Calls Try.prog 31 #[.agg #[.int .i64 k, .int .u16 a, .int .u16 b, .int .u16 c, .int .u16 d]] w fun e w' => e = .returned (.bool false) ∧ Below w.heap.size w w' := by
  by_cases hk : k < 0 ∨ 10 < k
  · exact proper_out k a b c d w hk
  have hk' : k = 0 ∨ k = 1 ∨ k = 2 ∨ k = 3 ∨ k = 4 ∨ k = 5 ∨ k = 6 ∨ k = 7 ∨ k = 8 ∨ k = 9 ∨ k = 10 := by omega
  unfold proper at h
  rcases hk' with rfl | rfl | rfl | rfl | rfl | rfl | rfl | rfl | rfl | rfl | rfl
  · exact proper_no_4_255 0 a b c d w (by omega) (by omega) ha0 ha1 hb0 hb1 hc0 hc1 hd0 hd1 (by omega) sizes_0
  · exact proper_no_4_65535 1 a b c d w (by omega) (by omega) ha0 ha1 hb0 hb1 hc0 hc1 hd0 hd1 (by omega) sizes_1
  · exact proper_no_4_255 2 a b c d w (by omega) (by omega) ha0 ha1 hb0 hb1 hc0 hc1 hd0 hd1 (by omega) sizes_2
  · exact proper_no_4_65535 3 a b c d w (by omega) (by omega) ha0 ha1 hb0 hb1 hc0 hc1 hd0 hd1 (by omega) sizes_3
  · exact proper_no_1_255 4 a b c d w (by omega) (by omega) ha0 ha1 hb0 hb1 hc0 hc1 hd0 hd1 (by omega) sizes_4
  · exact proper_no_1_65535 5 a b c d w (by omega) (by omega) ha0 ha1 hb0 hb1 hc0 hc1 hd0 hd1 (by omega) sizes_5
  · exact proper_no_1_255 6 a b c d w (by omega) (by omega) ha0 ha1 hb0 hb1 hc0 hc1 hd0 hd1 (by omega) sizes_6
  · exact proper_no_1_65535 7 a b c d w (by omega) (by omega) ha0 ha1 hb0 hb1 hc0 hc1 hd0 hd1 (by omega) sizes_7
  · exact proper_no_4_255 8 a b c d w (by omega) (by omega) ha0 ha1 hb0 hb1 hc0 hc1 hd0 hd1 (by omega) sizes_8
  · exact proper_no_3_255 9 a b c d w (by omega) (by omega) ha0 ha1 hb0 hb1 hc0 hc1 hd0 hd1 (by omega) sizes_9
  · exact proper_no_4_255 10 a b c d w (by omega) (by omega) ha0 ha1 hb0 hb1 hc0 hc1 hd0 hd1 (by omega) sizes_10

set_option maxHeartbeats 1000000 in
theorem specValid_yes (k a b c d : Int) (w : World) (h : valid k a b c d) : Calls Try.prog 22 #[.agg #[.int .i64 k, .int .u16 a, .int .u16 b, .int .u16 c, .int .u16 d]] w fun e w' => e = .returned (.bool true) ∧ Below w.heap.size w w' := by
  obtain ⟨hp, hv⟩ := h
  have P := Lib.hid (specProper_yes k a b c d · hp)
  have hk := proper_kind hp
  clear hp
  by_cases h01 : k = 0 ∨ k = 1
  · obtain ⟨v1, v2, v3⟩ := hv h01
    rcases h01 with rfl | rfl
    all_goals
      clear hv hk
      go_enter Try.func22, Try.ntmps22
      go_wp2_with fail
      refine (P.out _).mono ?_
      rintro e w1 ⟨rfl, b1⟩
      obtain ⟨hc, hf⟩ := bcell b1
      go_wp2_with fail
      go_ret
      exact ⟨rfl, by repeat (first | exact Below.refl _ _ | refine laterAlloc ?_ _ | refine Below.drew ?_ | refine below_drewN ?_ _ | refine later (by assumption) ?_)⟩
  · have e0 : (k == 0) = false := beq_eq_false_iff_ne.2 (by omega)
    have e1 : (k == 1) = false := beq_eq_false_iff_ne.2 (by omega)
    clear hv hk h01
    go_enter Try.func22, Try.ntmps22
    go_wp2_with fail
    refine (P.out _).mono ?_
    rintro e w1 ⟨rfl, b1⟩
    go_wp2_with fail
    go_ret
    exact ⟨rfl, by repeat (first | exact Below.refl _ _ | refine laterAlloc ?_ _ | refine Below.drew ?_ | refine below_drewN ?_ _ | refine later (by assumption) ?_)⟩

set_option maxHeartbeats 1000000 in
theorem specValid_no (k a b c d : Int) (w : World) (ha0 : 0 ≤ a) (ha1 : a ≤ 65535) (hb0 : 0 ≤ b) (hb1 : b ≤ 65535) (hc0 : 0 ≤ c) (hc1 : c ≤ 65535) (hd0 : 0 ≤ d) (hd1 : d ≤ 65535) (h : ¬ valid k a b c d) : Calls Try.prog 22 #[.agg #[.int .i64 k, .int .u16 a, .int .u16 b, .int .u16 c, .int .u16 d]] w fun e w' => e = .returned (.bool false) ∧ Below w.heap.size w w' := by
  by_cases hp : proper k a b c d
  · have hv : (k = 0 ∨ k = 1) ∧ ¬ (a ≤ d ∧ b ≤ d ∧ c ≤ d) := by
      by_cases q : (k = 0 ∨ k = 1) ∧ ¬ (a ≤ d ∧ b ≤ d ∧ c ≤ d)
      · exact q
      · exact absurd ⟨hp, fun h' => by omega⟩ h
    obtain ⟨h01, hv⟩ := hv
    have V := Lib.hid hv
    have P := Lib.hid (specProper_yes k a b c d · hp)
    clear h hp hv
    rcases h01 with rfl | rfl
    all_goals
      go_enter Try.func22, Try.ntmps22
      go_wp2_with fail
      refine (P.out _).mono ?_
      rintro e w1 ⟨rfl, b1⟩
      obtain ⟨hc, hf⟩ := bcell b1
      go_wp2_with fail
      all_goals go_ret
      all_goals first | exact ⟨rfl, by repeat (first | exact Below.refl _ _ | refine laterAlloc ?_ _ | refine Below.drew ?_ | refine below_drewN ?_ _ | refine later (by assumption) ?_)⟩ | (refine ⟨congrArg (fun z => Ending.returned (.bool z)) ?_, by repeat (first | exact Below.refl _ _ | refine laterAlloc ?_ _ | refine Below.drew ?_ | refine below_drewN ?_ _ | refine later (by assumption) ?_)⟩; have hv := V.out; simp; omega) | (exfalso; have hv := V.out; omega)
  · have P := Lib.hid (fun w => specProper_no k a b c d w ha0 ha1 hb0 hb1 hc0 hc1 hd0 hd1 hp)
    clear h hp
    by_cases h01 : k = 0 ∨ k = 1
    · rcases h01 with rfl | rfl
      all_goals
        go_enter Try.func22, Try.ntmps22
        go_wp2_with fail
        refine (P.out _).mono ?_
        rintro e w1 ⟨rfl, b1⟩
        go_wp2_with fail
        go_ret
        exact ⟨rfl, by repeat (first | exact Below.refl _ _ | refine laterAlloc ?_ _ | refine Below.drew ?_ | refine below_drewN ?_ _ | refine later (by assumption) ?_)⟩
    · have e0 : (k == 0) = false := beq_eq_false_iff_ne.2 (by omega)
      have e1 : (k == 1) = false := beq_eq_false_iff_ne.2 (by omega)
      clear h01
      go_enter Try.func22, Try.ntmps22
      go_wp2_with fail
      refine (P.out _).mono ?_
      rintro e w1 ⟨rfl, b1⟩
      go_wp2_with fail
      go_ret
      exact ⟨rfl, by repeat (first | exact Below.refl _ _ | refine laterAlloc ?_ _ | refine Below.drew ?_ | refine below_drewN ?_ _ | refine later (by assumption) ?_)⟩
end Go.Proofs.Ytbehpaclnpildaa
