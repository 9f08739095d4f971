/- colorOf makes the interface value of a color; Values returns its values. -/
import Derived.Test.YtbehpaclnpildaaRows
import Derived.Test.YtbehpaclnpildaaPlain
import Derived.Test.YtbehpaclnpildaaPlainCol
import Derived.Test.YtbehpaclnpildaaBase
import Derived.Test.YtbehpaclnpildaaBits
import Derived.WalkKit
import Derived.ProofKit
import Derived.OpenShut
import Derived.Outline
import Derived.WalkLawsBesides
import Derived.Deep.QuietTactic
import Derived.BigQuiet
import Derived.Lib.Hide
import Derived.Test.YtbehpaclnpildaaVals
namespace Go.Proofs.Ytbehpaclnpildaa
open Go.ChangeShapes Go.WideShapes Go.ChangeAt Go.RowKit Plain
set_option linter.unusedVariables false

/-- The number of the type of a color of a kind. -/
def tyOf (k : Int) : TypeId := if k = 0 then 57 else if k = 1 then 59 else if k = 2 then 60 else if k = 3 then 61 else if k = 4 then 63 else if k = 5 then 65 else if k = 6 then 67 else if k = 7 then 69 else if k = 8 then 71 else if k = 9 then 73 else 75
/-- What the interface value of a color holds. -/
def pay (k a b c d : Int) : Value := if k = 0 then .agg #[.int .u8 a, .int .u8 b, .int .u8 c, .int .u8 d] else if k = 1 then .agg #[.int .u16 a, .int .u16 b, .int .u16 c, .int .u16 d] else if k = 2 then .agg #[.int .u8 a, .int .u8 b, .int .u8 c, .int .u8 d] else if k = 3 then .agg #[.int .u16 a, .int .u16 b, .int .u16 c, .int .u16 d] else if k = 4 then .agg #[.int .u8 a] else if k = 5 then .agg #[.int .u16 a] else if k = 6 then .agg #[.int .u8 a] else if k = 7 then .agg #[.int .u16 a] else if k = 8 then .agg #[.int .u8 a, .int .u8 b, .int .u8 c, .int .u8 d] else if k = 9 then .agg #[.int .u8 a, .int .u8 b, .int .u8 c] else .agg #[.int .u8 a, .int .u8 b, .int .u8 c, .int .u8 d]

set_option maxHeartbeats 1000000 in
theorem colorOf_0 (a b c d : Int) (w : World) (ha0 : 0 ≤ a) (ha1 : a ≤ 255) (hb0 : 0 ≤ b) (hb1 : b ≤ 255) (hc0 : 0 ≤ c) (hc1 : c ≤ 255) (hd0 : 0 ≤ d) (hd1 : d ≤ 255) :
    Calls Try.prog 27 #[.agg #[.int .i64 0, .int .u16 a, .int .u16 b, .int .u16 c, .int .u16 d]] w fun e w' => e = .returned (.iface 57 (.agg #[.int .u8 a, .int .u8 b, .int .u8 c, .int .u8 d])) ∧ Below w.heap.size w w' := by
  go_enter Try.func27, Try.ntmps27
  go_wp2
  go_quiet (fail)
  go_wp2
  go_ret
  exact ⟨rfl, by repeat (first | exact Below.refl _ _ | refine laterAlloc ?_ _ | refine Below.drew ?_ | refine below_drewN ?_ _ | refine later (by assumption) ?_)⟩
theorem meth_0 (a b c d : Int) (w : World) : (method 197 57 (.agg #[.int .u8 a, .int .u8 b, .int .u8 c, .int .u8 d]) "RGBA").run Try.prog w = .ok (52, .agg #[.int .u8 a, .int .u8 b, .int .u8 c, .int .u8 d]) w := by kernel_rfl
theorem ent_0 (x : Value) (w : World) : (callFunc 52 #[x]).run Try.prog w = .ok (.enter 52 #[x]) w := by kernel_rfl

set_option maxHeartbeats 1000000 in
theorem colorOf_1 (a b c d : Int) (w : World) (ha0 : 0 ≤ a) (ha1 : a ≤ 65535) (hb0 : 0 ≤ b) (hb1 : b ≤ 65535) (hc0 : 0 ≤ c) (hc1 : c ≤ 65535) (hd0 : 0 ≤ d) (hd1 : d ≤ 65535) :
    Calls Try.prog 27 #[.agg #[.int .i64 1, .int .u16 a, .int .u16 b, .int .u16 c, .int .u16 d]] w fun e w' => e = .returned (.iface 59 (.agg #[.int .u16 a, .int .u16 b, .int .u16 c, .int .u16 d])) ∧ Below w.heap.size w w' := by
  go_enter Try.func27, Try.ntmps27
  go_wp2
  go_quiet (fail)
  go_wp2
  go_ret
  exact ⟨rfl, by repeat (first | exact Below.refl _ _ | refine laterAlloc ?_ _ | refine Below.drew ?_ | refine below_drewN ?_ _ | refine later (by assumption) ?_)⟩
theorem meth_1 (a b c d : Int) (w : World) : (method 197 59 (.agg #[.int .u16 a, .int .u16 b, .int .u16 c, .int .u16 d]) "RGBA").run Try.prog w = .ok (53, .agg #[.int .u16 a, .int .u16 b, .int .u16 c, .int .u16 d]) w := by kernel_rfl
theorem ent_1 (x : Value) (w : World) : (callFunc 53 #[x]).run Try.prog w = .ok (.enter 53 #[x]) w := by kernel_rfl

set_option maxHeartbeats 1000000 in
theorem colorOf_2 (a b c d : Int) (w : World) (ha0 : 0 ≤ a) (ha1 : a ≤ 255) (hb0 : 0 ≤ b) (hb1 : b ≤ 255) (hc0 : 0 ≤ c) (hc1 : c ≤ 255) (hd0 : 0 ≤ d) (hd1 : d ≤ 255) :
    Calls Try.prog 27 #[.agg #[.int .i64 2, .int .u16 a, .int .u16 b, .int .u16 c, .int .u16 d]] w fun e w' => e = .returned (.iface 60 (.agg #[.int .u8 a, .int .u8 b, .int .u8 c, .int .u8 d])) ∧ Below w.heap.size w w' := by
  go_enter Try.func27, Try.ntmps27
  go_wp2
  go_quiet (fail)
  go_wp2
  go_ret
  exact ⟨rfl, by repeat (first | exact Below.refl _ _ | refine laterAlloc ?_ _ | refine Below.drew ?_ | refine below_drewN ?_ _ | refine later (by assumption) ?_)⟩
theorem meth_2 (a b c d : Int) (w : World) : (method 197 60 (.agg #[.int .u8 a, .int .u8 b, .int .u8 c, .int .u8 d]) "RGBA").run Try.prog w = .ok (54, .agg #[.int .u8 a, .int .u8 b, .int .u8 c, .int .u8 d]) w := by kernel_rfl
theorem ent_2 (x : Value) (w : World) : (callFunc 54 #[x]).run Try.prog w = .ok (.enter 54 #[x]) w := by kernel_rfl

set_option maxHeartbeats 1000000 in
theorem colorOf_3 (a b c d : Int) (w : World) (ha0 : 0 ≤ a) (ha1 : a ≤ 65535) (hb0 : 0 ≤ b) (hb1 : b ≤ 65535) (hc0 : 0 ≤ c) (hc1 : c ≤ 65535) (hd0 : 0 ≤ d) (hd1 : d ≤ 65535) :
    Calls Try.prog 27 #[.agg #[.int .i64 3, .int .u16 a, .int .u16 b, .int .u16 c, .int .u16 d]] w fun e w' => e = .returned (.iface 61 (.agg #[.int .u16 a, .int .u16 b, .int .u16 c, .int .u16 d])) ∧ Below w.heap.size w w' := by
  go_enter Try.func27, Try.ntmps27
  go_wp2
  go_quiet (fail)
  go_wp2
  go_ret
  exact ⟨rfl, by repeat (first | exact Below.refl _ _ | refine laterAlloc ?_ _ | refine Below.drew ?_ | refine below_drewN ?_ _ | refine later (by assumption) ?_)⟩
theorem meth_3 (a b c d : Int) (w : World) : (method 197 61 (.agg #[.int .u16 a, .int .u16 b, .int .u16 c, .int .u16 d]) "RGBA").run Try.prog w = .ok (55, .agg #[.int .u16 a, .int .u16 b, .int .u16 c, .int .u16 d]) w := by kernel_rfl
theorem ent_3 (x : Value) (w : World) : (callFunc 55 #[x]).run Try.prog w = .ok (.enter 55 #[x]) w := by kernel_rfl

set_option maxHeartbeats 1000000 in
theorem colorOf_4 (a : Int) (w : World) (ha0 : 0 ≤ a) (ha1 : a ≤ 255) :
    Calls Try.prog 27 #[.agg #[.int .i64 4, .int .u16 a, .int .u16 0, .int .u16 0, .int .u16 0]] w fun e w' => e = .returned (.iface 63 (.agg #[.int .u8 a])) ∧ Below w.heap.size w w' := by
  go_enter Try.func27, Try.ntmps27
  go_wp2
  go_quiet (fail)
  go_wp2
  go_ret
  exact ⟨rfl, by repeat (first | exact Below.refl _ _ | refine laterAlloc ?_ _ | refine Below.drew ?_ | refine below_drewN ?_ _ | refine later (by assumption) ?_)⟩
theorem meth_4 (a : Int) (w : World) : (method 197 63 (.agg #[.int .u8 a]) "RGBA").run Try.prog w = .ok (56, .agg #[.int .u8 a]) w := by kernel_rfl
theorem ent_4 (x : Value) (w : World) : (callFunc 56 #[x]).run Try.prog w = .ok (.enter 56 #[x]) w := by kernel_rfl

set_option maxHeartbeats 1000000 in
theorem colorOf_5 (a : Int) (w : World) (ha0 : 0 ≤ a) (ha1 : a ≤ 65535) :
    Calls Try.prog 27 #[.agg #[.int .i64 5, .int .u16 a, .int .u16 0, .int .u16 0, .int .u16 0]] w fun e w' => e = .returned (.iface 65 (.agg #[.int .u16 a])) ∧ Below w.heap.size w w' := by
  go_enter Try.func27, Try.ntmps27
  go_wp2
  go_quiet (fail)
  go_wp2
  go_ret
  exact ⟨rfl, by repeat (first | exact Below.refl _ _ | refine laterAlloc ?_ _ | refine Below.drew ?_ | refine below_drewN ?_ _ | refine later (by assumption) ?_)⟩
theorem meth_5 (a : Int) (w : World) : (method 197 65 (.agg #[.int .u16 a]) "RGBA").run Try.prog w = .ok (57, .agg #[.int .u16 a]) w := by kernel_rfl
theorem ent_5 (x : Value) (w : World) : (callFunc 57 #[x]).run Try.prog w = .ok (.enter 57 #[x]) w := by kernel_rfl

set_option maxHeartbeats 1000000 in
theorem colorOf_6 (a : Int) (w : World) (ha0 : 0 ≤ a) (ha1 : a ≤ 255) :
    Calls Try.prog 27 #[.agg #[.int .i64 6, .int .u16 a, .int .u16 0, .int .u16 0, .int .u16 0]] w fun e w' => e = .returned (.iface 67 (.agg #[.int .u8 a])) ∧ Below w.heap.size w w' := by
  go_enter Try.func27, Try.ntmps27
  go_wp2
  go_quiet (fail)
  go_wp2
  go_ret
  exact ⟨rfl, by repeat (first | exact Below.refl _ _ | refine laterAlloc ?_ _ | refine Below.drew ?_ | refine below_drewN ?_ _ | refine later (by assumption) ?_)⟩
theorem meth_6 (a : Int) (w : World) : (method 197 67 (.agg #[.int .u8 a]) "RGBA").run Try.prog w = .ok (58, .agg #[.int .u8 a]) w := by kernel_rfl
theorem ent_6 (x : Value) (w : World) : (callFunc 58 #[x]).run Try.prog w = .ok (.enter 58 #[x]) w := by kernel_rfl

set_option maxHeartbeats 1000000 in
theorem colorOf_7 (a : Int) (w : World) (ha0 : 0 ≤ a) (ha1 : a ≤ 65535) :
    Calls Try.prog 27 #[.agg #[.int .i64 7, .int .u16 a, .int .u16 0, .int .u16 0, .int .u16 0]] w fun e w' => e = .returned (.iface 69 (.agg #[.int .u16 a])) ∧ Below w.heap.size w w' := by
  go_enter Try.func27, Try.ntmps27
  go_wp2
  go_quiet (fail)
  go_wp2
  go_ret
  exact ⟨rfl, by repeat (first | exact Below.refl _ _ | refine laterAlloc ?_ _ | refine Below.drew ?_ | refine below_drewN ?_ _ | refine later (by assumption) ?_)⟩
theorem meth_7 (a : Int) (w : World) : (method 197 69 (.agg #[.int .u16 a]) "RGBA").run Try.prog w = .ok (59, .agg #[.int .u16 a]) w := by kernel_rfl
theorem ent_7 (x : Value) (w : World) : (callFunc 59 #[x]).run Try.prog w = .ok (.enter 59 #[x]) w := by kernel_rfl

set_option maxHeartbeats 1000000 in
theorem colorOf_8 (a b c d : Int) (w : World) (ha0 : 0 ≤ a) (ha1 : a ≤ 255) (hb0 : 0 ≤ b) (hb1 : b ≤ 255) (hc0 : 0 ≤ c) (hc1 : c ≤ 255) (hd0 : 0 ≤ d) (hd1 : d ≤ 255) :
    Calls Try.prog 27 #[.agg #[.int .i64 8, .int .u16 a, .int .u16 b, .int .u16 c, .int .u16 d]] w fun e w' => e = .returned (.iface 71 (.agg #[.int .u8 a, .int .u8 b, .int .u8 c, .int .u8 d])) ∧ Below w.heap.size w w' := by
  go_enter Try.func27, Try.ntmps27
  go_wp2
  go_quiet (fail)
  go_wp2
  go_ret
  exact ⟨rfl, by repeat (first | exact Below.refl _ _ | refine laterAlloc ?_ _ | refine Below.drew ?_ | refine below_drewN ?_ _ | refine later (by assumption) ?_)⟩
theorem meth_8 (a b c d : Int) (w : World) : (method 197 71 (.agg #[.int .u8 a, .int .u8 b, .int .u8 c, .int .u8 d]) "RGBA").run Try.prog w = .ok (60, .agg #[.int .u8 a, .int .u8 b, .int .u8 c, .int .u8 d]) w := by kernel_rfl
theorem ent_8 (x : Value) (w : World) : (callFunc 60 #[x]).run Try.prog w = .ok (.enter 60 #[x]) w := by kernel_rfl

set_option maxHeartbeats 1000000 in
theorem colorOf_9 (a b c : Int) (w : World) (ha0 : 0 ≤ a) (ha1 : a ≤ 255) (hb0 : 0 ≤ b) (hb1 : b ≤ 255) (hc0 : 0 ≤ c) (hc1 : c ≤ 255) :
    Calls Try.prog 27 #[.agg #[.int .i64 9, .int .u16 a, .int .u16 b, .int .u16 c, .int .u16 0]] w fun e w' => e = .returned (.iface 73 (.agg #[.int .u8 a, .int .u8 b, .int .u8 c])) ∧ Below w.heap.size w w' := by
  go_enter Try.func27, Try.ntmps27
  go_wp2
  go_quiet (fail)
  go_wp2
  go_ret
  exact ⟨rfl, by repeat (first | exact Below.refl _ _ | refine laterAlloc ?_ _ | refine Below.drew ?_ | refine below_drewN ?_ _ | refine later (by assumption) ?_)⟩
theorem meth_9 (a b c : Int) (w : World) : (method 197 73 (.agg #[.int .u8 a, .int .u8 b, .int .u8 c]) "RGBA").run Try.prog w = .ok (61, .agg #[.int .u8 a, .int .u8 b, .int .u8 c]) w := by kernel_rfl
theorem ent_9 (x : Value) (w : World) : (callFunc 61 #[x]).run Try.prog w = .ok (.enter 61 #[x]) w := by kernel_rfl

set_option maxHeartbeats 1000000 in
theorem colorOf_10 (a b c d : Int) (w : World) (ha0 : 0 ≤ a) (ha1 : a ≤ 255) (hb0 : 0 ≤ b) (hb1 : b ≤ 255) (hc0 : 0 ≤ c) (hc1 : c ≤ 255) (hd0 : 0 ≤ d) (hd1 : d ≤ 255) :
    Calls Try.prog 27 #[.agg #[.int .i64 10, .int .u16 a, .int .u16 b, .int .u16 c, .int .u16 d]] w fun e w' => e = .returned (.iface 75 (.agg #[.int .u8 a, .int .u8 b, .int .u8 c, .int .u8 d])) ∧ Below w.heap.size w w' := by
  go_enter Try.func27, Try.ntmps27
  go_wp2
  go_quiet (fail)
  go_wp2
  go_ret
  exact ⟨rfl, by repeat (first | exact Below.refl _ _ | refine laterAlloc ?_ _ | refine Below.drew ?_ | refine below_drewN ?_ _ | refine later (by assumption) ?_)⟩
theorem meth_10 (a b c d : Int) (w : World) : (method 197 75 (.agg #[.int .u8 a, .int .u8 b, .int .u8 c, .int .u8 d]) "RGBA").run Try.prog w = .ok (62, .agg #[.int .u8 a, .int .u8 b, .int .u8 c, .int .u8 d]) w := by kernel_rfl
theorem ent_10 (x : Value) (w : World) : (callFunc 62 #[x]).run Try.prog w = .ok (.enter 62 #[x]) w := by kernel_rfl

theorem colorOf_any (k a b c d : Int) (w : World) (h : proper k a b c d) :
    Calls Try.prog 27 #[.agg #[.int .i64 k, .int .u16 a, .int .u16 b, .int .u16 c, .int .u16 d]] w fun e w' => e = .returned (.iface (tyOf k) (pay k a b c d)) ∧ Below w.heap.size w w' := by
  have hk := proper_kind h
  unfold proper at h
  rcases hk with rfl | rfl | rfl | rfl | rfl | rfl | rfl | rfl | rfl | rfl | rfl
  · exact colorOf_0 a b c d w (by omega) (by omega) (by omega) (by omega) (by omega) (by omega) (by omega) (by omega)
  · exact colorOf_1 a b c d w (by omega) (by omega) (by omega) (by omega) (by omega) (by omega) (by omega) (by omega)
  · exact colorOf_2 a b c d w (by omega) (by omega) (by omega) (by omega) (by omega) (by omega) (by omega) (by omega)
  · exact colorOf_3 a b c d w (by omega) (by omega) (by omega) (by omega) (by omega) (by omega) (by omega) (by omega)
  · obtain ⟨rfl, rfl, rfl⟩ : b = 0 ∧ c = 0 ∧ d = 0 := by omega
    exact colorOf_4 a w (by omega) (by omega)
  · obtain ⟨rfl, rfl, rfl⟩ : b = 0 ∧ c = 0 ∧ d = 0 := by omega
    exact colorOf_5 a w (by omega) (by omega)
  · obtain ⟨rfl, rfl, rfl⟩ : b = 0 ∧ c = 0 ∧ d = 0 := by omega
    exact colorOf_6 a w (by omega) (by omega)
  · obtain ⟨rfl, rfl, rfl⟩ : b = 0 ∧ c = 0 ∧ d = 0 := by omega
    exact colorOf_7 a w (by omega) (by omega)
  · exact colorOf_8 a b c d w (by omega) (by omega) (by omega) (by omega) (by omega) (by omega) (by omega) (by omega)
  · obtain ⟨rfl⟩ : d = 0 := by omega
    exact colorOf_9 a b c w (by omega) (by omega) (by omega) (by omega) (by omega) (by omega)
  · exact colorOf_10 a b c d w (by omega) (by omega) (by omega) (by omega) (by omega) (by omega) (by omega) (by omega)

/-- An interface value that shows these values, scaled by alpha: its method RGBA returns them and changes nothing of old. -/
def Shows (u : TypeId) (v : Value) (r g b a : Int) : Prop :=
  (0 ≤ r ∧ r ≤ a ∧ 0 ≤ g ∧ g ≤ a ∧ 0 ≤ b ∧ b ≤ a ∧ 0 ≤ a ∧ a ≤ 65535) ∧ ∃ (f : FuncId) (x : Value), (∀ w, (method 197 u v "RGBA").run Try.prog w = .ok (f, x) w) ∧ (∀ w, (callFunc f #[x]).run Try.prog w = .ok (.enter f #[x]) w) ∧
    ∀ w, Calls Try.prog f #[x] w fun e w' => e = .returned (.tuple #[.int .u32 r, .int .u32 g, .int .u32 b, .int .u32 a]) ∧ Below w.heap.size w w'

theorem shows_any (k a b c d : Int) (h : valid k a b c d) : Shows (tyOf k) (pay k a b c d) (vR k a b c d) (vG k a b c d) (vB k a b c d) (vA k a b c d) := by
  refine ⟨vals_range h, ?_⟩
  have h := h.1
  have hk := proper_kind h
  unfold proper at h
  rcases hk with rfl | rfl | rfl | rfl | rfl | rfl | rfl | rfl | rfl | rfl | rfl
  · exact ⟨_, _, meth_0 a b c d, ent_0 _, fun w => rgba_RGBA a b c d w (by omega) (by omega) (by omega) (by omega) (by omega) (by omega) (by omega) (by omega)⟩
  · exact ⟨_, _, meth_1 a b c d, ent_1 _, fun w => rgba_RGBA64 a b c d w (by omega) (by omega) (by omega) (by omega) (by omega) (by omega) (by omega) (by omega)⟩
  · exact ⟨_, _, meth_2 a b c d, ent_2 _, fun w => rgba_NRGBA a b c d w (by omega) (by omega) (by omega) (by omega) (by omega) (by omega) (by omega) (by omega)⟩
  · exact ⟨_, _, meth_3 a b c d, ent_3 _, fun w => rgba_NRGBA64 a b c d w (by omega) (by omega) (by omega) (by omega) (by omega) (by omega) (by omega) (by omega)⟩
  · obtain ⟨rfl, rfl, rfl⟩ : b = 0 ∧ c = 0 ∧ d = 0 := by omega
    exact ⟨_, _, meth_4 a, ent_4 _, fun w => rgba_Alpha a w (by omega) (by omega)⟩
  · obtain ⟨rfl, rfl, rfl⟩ : b = 0 ∧ c = 0 ∧ d = 0 := by omega
    exact ⟨_, _, meth_5 a, ent_5 _, fun w => rgba_Alpha16 a w (by omega) (by omega)⟩
  · obtain ⟨rfl, rfl, rfl⟩ : b = 0 ∧ c = 0 ∧ d = 0 := by omega
    exact ⟨_, _, meth_6 a, ent_6 _, fun w => rgba_Gray a w (by omega) (by omega)⟩
  · obtain ⟨rfl, rfl, rfl⟩ : b = 0 ∧ c = 0 ∧ d = 0 := by omega
    exact ⟨_, _, meth_7 a, ent_7 _, fun w => rgba_Gray16 a w (by omega) (by omega)⟩
  · exact ⟨_, _, meth_8 a b c d, ent_8 _, fun w => rgba_CMYK a b c d w (by omega) (by omega) (by omega) (by omega) (by omega) (by omega) (by omega) (by omega)⟩
  · obtain ⟨rfl⟩ : d = 0 := by omega
    exact ⟨_, _, meth_9 a b c, ent_9 _, fun w => rgba_YCbCr a b c w (by omega) (by omega) (by omega) (by omega) (by omega) (by omega)⟩
  · exact ⟨_, _, meth_10 a b c d, ent_10 _, fun w => rgba_NYCbCrA a b c d w (by omega) (by omega) (by omega) (by omega) (by omega) (by omega) (by omega) (by omega)⟩

theorem implValues (k a b c d : Int) (w : World) (h : valid k a b c d) :
    Calls Try.prog 13 #[.agg #[.int .i64 k, .int .u16 a, .int .u16 b, .int .u16 c, .int .u16 d]] w fun e w' => e = .returned (.agg #[.int .u32 (vR k a b c d), .int .u32 (vG k a b c d), .int .u32 (vB k a b c d), .int .u32 (vA k a b c d)]) ∧ Below w.heap.size w w' := by
  obtain ⟨_, f, x, hm, hn, hc⟩ := shows_any k a b c d h
  have HC := Lib.hid hc
  clear hc
  go_enter Try.func13, Try.ntmps13
  go_wp2_with fail
  refine (colorOf_any k a b c d _ h.1).mono ?_
  rintro e w1 ⟨rfl, b1⟩
  go_wp2_with fail
  refine (HC.out _).mono ?_
  rintro e w2 ⟨rfl, b2⟩
  have B := later b2 b1
  have z : w.heap.size + 1 < w2.heap.size := by have := B.size; simp at this; omega
  have r0 : w2.cell? ⟨w.heap.size + 1, 0, none⟩ = some (.int .u32 0) := cell_later B (by simp [go_sem])
  have r1 : w2.cell? ⟨w.heap.size + 1, 1, none⟩ = some (.int .u32 0) := cell_later B (by simp [go_sem])
  have r2 : w2.cell? ⟨w.heap.size + 1, 2, none⟩ = some (.int .u32 0) := cell_later B (by simp [go_sem])
  have r3 : w2.cell? ⟨w.heap.size + 1, 3, none⟩ = some (.int .u32 0) := cell_later B (by simp [go_sem])
  have q : ∀ j, w2.frozen? ⟨w.heap.size + 1, j, none⟩ = false := fun j => (B.frozen (p := ⟨w.heap.size + 1, j, none⟩) (by simp)).trans (by simp [go_sem])
  clear b1 b2
  go_wp2_with fail
  refine bodyPost_ret (v := .agg #[.int .u32 (vR k a b c d), .int .u32 (vG k a b c d), .int .u32 (vB k a b c d), .int .u32 (vA k a b c d)]) (by simp [results, Try.results13, go_sem, r0, r1, r2, r3]) rfl ⟨rfl, ?_⟩
  refine ((((Below.trans ?_ (B.mono (by simp; omega))).setCell ?_ _).setCell ?_ _).setCell ?_ _).setCell ?_ _
  exact laterAlloc (laterAlloc (Below.refl _ _) _) _
  all_goals simp
end Go.Proofs.Ytbehpaclnpildaa
