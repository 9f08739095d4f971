/- dataOf gives the data of an interface value of a color. -/
import Derived.Test.YtbehpaclnpildaaColor
import Derived.WalkKit
import Derived.ProofKit
import Derived.OpenShut
import Derived.Outline
import Derived.WalkLawsBesides
import Derived.LoopN
import Derived.Lib.Hide
import Derived.Test.YtbehpaclnpildaaEight
namespace Go.Proofs.Ytbehpaclnpildaa
open Go.ChangeShapes Go.WideShapes Go.ChangeAt Go.RowKit Plain
set_option linter.unusedVariables false

theorem asYes_0 (v : Value) (w : World) : (Instr.typeAssert (.iface 57 v) 47 57 true).run Try.prog w = .ok (.tuple #[v, .bool true]) w := by kernel_rfl
theorem asNo_0 (u : TypeId) (v : Value) (h : u ≠ 57) (w : World) : (Instr.typeAssert (.iface u v) 47 57 true).run Try.prog w = .ok (.tuple #[.agg #[.int .u8 0, .int .u8 0, .int .u8 0, .int .u8 0], .bool false]) w := by
  have e : (Instr.typeAssert (.iface u v) 47 57 true).run Try.prog w = (if u = 57 then (pure (Value.tuple #[v, .bool true]) : Sem Value) else (do pure (Value.tuple #[← zeroValue 57, .bool false]))).run Try.prog w := by kernel_rfl
  have z : (do pure (Value.tuple #[← zeroValue 57, .bool false]) : Sem Value).run Try.prog w = .ok (.tuple #[.agg #[.int .u8 0, .int .u8 0, .int .u8 0, .int .u8 0], .bool false]) w := by kernel_rfl
  rw [e, if_neg h]
  exact z

theorem asYes_1 (v : Value) (w : World) : (Instr.typeAssert (.iface 59 v) 47 59 true).run Try.prog w = .ok (.tuple #[v, .bool true]) w := by kernel_rfl
theorem asNo_1 (u : TypeId) (v : Value) (h : u ≠ 59) (w : World) : (Instr.typeAssert (.iface u v) 47 59 true).run Try.prog w = .ok (.tuple #[.agg #[.int .u16 0, .int .u16 0, .int .u16 0, .int .u16 0], .bool false]) w := by
  have e : (Instr.typeAssert (.iface u v) 47 59 true).run Try.prog w = (if u = 59 then (pure (Value.tuple #[v, .bool true]) : Sem Value) else (do pure (Value.tuple #[← zeroValue 59, .bool false]))).run Try.prog w := by kernel_rfl
  have z : (do pure (Value.tuple #[← zeroValue 59, .bool false]) : Sem Value).run Try.prog w = .ok (.tuple #[.agg #[.int .u16 0, .int .u16 0, .int .u16 0, .int .u16 0], .bool false]) w := by kernel_rfl
  rw [e, if_neg h]
  exact z

theorem asYes_2 (v : Value) (w : World) : (Instr.typeAssert (.iface 60 v) 47 60 true).run Try.prog w = .ok (.tuple #[v, .bool true]) w := by kernel_rfl
theorem asNo_2 (u : TypeId) (v : Value) (h : u ≠ 60) (w : World) : (Instr.typeAssert (.iface u v) 47 60 true).run Try.prog w = .ok (.tuple #[.agg #[.int .u8 0, .int .u8 0, .int .u8 0, .int .u8 0], .bool false]) w := by
  have e : (Instr.typeAssert (.iface u v) 47 60 true).run Try.prog w = (if u = 60 then (pure (Value.tuple #[v, .bool true]) : Sem Value) else (do pure (Value.tuple #[← zeroValue 60, .bool false]))).run Try.prog w := by kernel_rfl
  have z : (do pure (Value.tuple #[← zeroValue 60, .bool false]) : Sem Value).run Try.prog w = .ok (.tuple #[.agg #[.int .u8 0, .int .u8 0, .int .u8 0, .int .u8 0], .bool false]) w := by kernel_rfl
  rw [e, if_neg h]
  exact z

theorem asYes_3 (v : Value) (w : World) : (Instr.typeAssert (.iface 61 v) 47 61 true).run Try.prog w = .ok (.tuple #[v, .bool true]) w := by kernel_rfl
theorem asNo_3 (u : TypeId) (v : Value) (h : u ≠ 61) (w : World) : (Instr.typeAssert (.iface u v) 47 61 true).run Try.prog w = .ok (.tuple #[.agg #[.int .u16 0, .int .u16 0, .int .u16 0, .int .u16 0], .bool false]) w := by
  have e : (Instr.typeAssert (.iface u v) 47 61 true).run Try.prog w = (if u = 61 then (pure (Value.tuple #[v, .bool true]) : Sem Value) else (do pure (Value.tuple #[← zeroValue 61, .bool false]))).run Try.prog w := by kernel_rfl
  have z : (do pure (Value.tuple #[← zeroValue 61, .bool false]) : Sem Value).run Try.prog w = .ok (.tuple #[.agg #[.int .u16 0, .int .u16 0, .int .u16 0, .int .u16 0], .bool false]) w := by kernel_rfl
  rw [e, if_neg h]
  exact z

theorem asYes_4 (v : Value) (w : World) : (Instr.typeAssert (.iface 63 v) 47 63 true).run Try.prog w = .ok (.tuple #[v, .bool true]) w := by kernel_rfl
theorem asNo_4 (u : TypeId) (v : Value) (h : u ≠ 63) (w : World) : (Instr.typeAssert (.iface u v) 47 63 true).run Try.prog w = .ok (.tuple #[.agg #[.int .u8 0], .bool false]) w := by
  have e : (Instr.typeAssert (.iface u v) 47 63 true).run Try.prog w = (if u = 63 then (pure (Value.tuple #[v, .bool true]) : Sem Value) else (do pure (Value.tuple #[← zeroValue 63, .bool false]))).run Try.prog w := by kernel_rfl
  have z : (do pure (Value.tuple #[← zeroValue 63, .bool false]) : Sem Value).run Try.prog w = .ok (.tuple #[.agg #[.int .u8 0], .bool false]) w := by kernel_rfl
  rw [e, if_neg h]
  exact z

theorem asYes_5 (v : Value) (w : World) : (Instr.typeAssert (.iface 65 v) 47 65 true).run Try.prog w = .ok (.tuple #[v, .bool true]) w := by kernel_rfl
theorem asNo_5 (u : TypeId) (v : Value) (h : u ≠ 65) (w : World) : (Instr.typeAssert (.iface u v) 47 65 true).run Try.prog w = .ok (.tuple #[.agg #[.int .u16 0], .bool false]) w := by
  have e : (Instr.typeAssert (.iface u v) 47 65 true).run Try.prog w = (if u = 65 then (pure (Value.tuple #[v, .bool true]) : Sem Value) else (do pure (Value.tuple #[← zeroValue 65, .bool false]))).run Try.prog w := by kernel_rfl
  have z : (do pure (Value.tuple #[← zeroValue 65, .bool false]) : Sem Value).run Try.prog w = .ok (.tuple #[.agg #[.int .u16 0], .bool false]) w := by kernel_rfl
  rw [e, if_neg h]
  exact z

theorem asYes_6 (v : Value) (w : World) : (Instr.typeAssert (.iface 67 v) 47 67 true).run Try.prog w = .ok (.tuple #[v, .bool true]) w := by kernel_rfl
theorem asNo_6 (u : TypeId) (v : Value) (h : u ≠ 67) (w : World) : (Instr.typeAssert (.iface u v) 47 67 true).run Try.prog w = .ok (.tuple #[.agg #[.int .u8 0], .bool false]) w := by
  have e : (Instr.typeAssert (.iface u v) 47 67 true).run Try.prog w = (if u = 67 then (pure (Value.tuple #[v, .bool true]) : Sem Value) else (do pure (Value.tuple #[← zeroValue 67, .bool false]))).run Try.prog w := by kernel_rfl
  have z : (do pure (Value.tuple #[← zeroValue 67, .bool false]) : Sem Value).run Try.prog w = .ok (.tuple #[.agg #[.int .u8 0], .bool false]) w := by kernel_rfl
  rw [e, if_neg h]
  exact z

theorem asYes_7 (v : Value) (w : World) : (Instr.typeAssert (.iface 69 v) 47 69 true).run Try.prog w = .ok (.tuple #[v, .bool true]) w := by kernel_rfl
theorem asNo_7 (u : TypeId) (v : Value) (h : u ≠ 69) (w : World) : (Instr.typeAssert (.iface u v) 47 69 true).run Try.prog w = .ok (.tuple #[.agg #[.int .u16 0], .bool false]) w := by
  have e : (Instr.typeAssert (.iface u v) 47 69 true).run Try.prog w = (if u = 69 then (pure (Value.tuple #[v, .bool true]) : Sem Value) else (do pure (Value.tuple #[← zeroValue 69, .bool false]))).run Try.prog w := by kernel_rfl
  have z : (do pure (Value.tuple #[← zeroValue 69, .bool false]) : Sem Value).run Try.prog w = .ok (.tuple #[.agg #[.int .u16 0], .bool false]) w := by kernel_rfl
  rw [e, if_neg h]
  exact z

theorem asYes_8 (v : Value) (w : World) : (Instr.typeAssert (.iface 71 v) 47 71 true).run Try.prog w = .ok (.tuple #[v, .bool true]) w := by kernel_rfl
theorem asNo_8 (u : TypeId) (v : Value) (h : u ≠ 71) (w : World) : (Instr.typeAssert (.iface u v) 47 71 true).run Try.prog w = .ok (.tuple #[.agg #[.int .u8 0, .int .u8 0, .int .u8 0, .int .u8 0], .bool false]) w := by
  have e : (Instr.typeAssert (.iface u v) 47 71 true).run Try.prog w = (if u = 71 then (pure (Value.tuple #[v, .bool true]) : Sem Value) else (do pure (Value.tuple #[← zeroValue 71, .bool false]))).run Try.prog w := by kernel_rfl
  have z : (do pure (Value.tuple #[← zeroValue 71, .bool false]) : Sem Value).run Try.prog w = .ok (.tuple #[.agg #[.int .u8 0, .int .u8 0, .int .u8 0, .int .u8 0], .bool false]) w := by kernel_rfl
  rw [e, if_neg h]
  exact z

theorem asYes_9 (v : Value) (w : World) : (Instr.typeAssert (.iface 73 v) 47 73 true).run Try.prog w = .ok (.tuple #[v, .bool true]) w := by kernel_rfl
theorem asNo_9 (u : TypeId) (v : Value) (h : u ≠ 73) (w : World) : (Instr.typeAssert (.iface u v) 47 73 true).run Try.prog w = .ok (.tuple #[.agg #[.int .u8 0, .int .u8 0, .int .u8 0], .bool false]) w := by
  have e : (Instr.typeAssert (.iface u v) 47 73 true).run Try.prog w = (if u = 73 then (pure (Value.tuple #[v, .bool true]) : Sem Value) else (do pure (Value.tuple #[← zeroValue 73, .bool false]))).run Try.prog w := by kernel_rfl
  have z : (do pure (Value.tuple #[← zeroValue 73, .bool false]) : Sem Value).run Try.prog w = .ok (.tuple #[.agg #[.int .u8 0, .int .u8 0, .int .u8 0], .bool false]) w := by kernel_rfl
  rw [e, if_neg h]
  exact z

theorem asYes_10 (v : Value) (w : World) : (Instr.typeAssert (.iface 75 v) 47 75 true).run Try.prog w = .ok (.tuple #[v, .bool true]) w := by kernel_rfl
theorem asNo_10 (u : TypeId) (v : Value) (h : u ≠ 75) (w : World) : (Instr.typeAssert (.iface u v) 47 75 true).run Try.prog w = .ok (.tuple #[.agg #[.int .u8 0, .int .u8 0, .int .u8 0, .int .u8 0], .bool false]) w := by
  have e : (Instr.typeAssert (.iface u v) 47 75 true).run Try.prog w = (if u = 75 then (pure (Value.tuple #[v, .bool true]) : Sem Value) else (do pure (Value.tuple #[← zeroValue 75, .bool false]))).run Try.prog w := by kernel_rfl
  have z : (do pure (Value.tuple #[← zeroValue 75, .bool false]) : Sem Value).run Try.prog w = .ok (.tuple #[.agg #[.int .u8 0, .int .u8 0, .int .u8 0, .int .u8 0], .bool false]) w := by kernel_rfl
  rw [e, if_neg h]
  exact z

set_option maxHeartbeats 2000000 in
theorem dataOf_0 (a b c d : Int) (w : World) (ha0 : 0 ≤ a) (ha1 : a ≤ 255) (hb0 : 0 ≤ b) (hb1 : b ≤ 255) (hc0 : 0 ≤ c) (hc1 : c ≤ 255) (hd0 : 0 ≤ d) (hd1 : d ≤ 255) :
    Calls Try.prog 33 #[.iface 57 (.agg #[.int .u8 a, .int .u8 b, .int .u8 c, .int .u8 d])] w fun e w' => e = .returned (.tuple #[.agg #[.int .i64 0, .int .u16 a, .int .u16 b, .int .u16 c, .int .u16 d], .bool true]) ∧ Below w.heap.size w w' := by
  have y := asYes_0 (.agg #[.int .u8 a, .int .u8 b, .int .u8 c, .int .u8 d])
  go_enter Try.func33, Try.ntmps33
  go_wp2_with fail
  refine (eight4 0 a b c d _ _ (by omega) (by omega) (by omega) (by omega) (by omega) (by omega) (by omega) (by omega) (by simp [go_sem]) (by simp [go_sem]) (by simp [go_sem]) (by simp [go_sem])).mono ?_
  rintro e w1 ⟨rfl, b1⟩
  have z : w.heap.size < w1.heap.size := by have := b1.size; simp at this; omega
  have r0 : w1.cell? ⟨w.heap.size, 0, none⟩ = some (.int .i64 0) := cell_later b1 (by simp [go_sem])
  have r1 : w1.cell? ⟨w.heap.size, 1, none⟩ = some (.int .u16 0) := cell_later b1 (by simp [go_sem])
  have r2 : w1.cell? ⟨w.heap.size, 2, none⟩ = some (.int .u16 0) := cell_later b1 (by simp [go_sem])
  have r3 : w1.cell? ⟨w.heap.size, 3, none⟩ = some (.int .u16 0) := cell_later b1 (by simp [go_sem])
  have r4 : w1.cell? ⟨w.heap.size, 4, none⟩ = some (.int .u16 0) := cell_later b1 (by simp [go_sem])
  have q : ∀ j, w1.frozen? ⟨w.heap.size, j, none⟩ = false := fun j => (b1.frozen (p := ⟨w.heap.size, j, none⟩) (by simp; omega)).trans (by simp [go_sem])
  have B : Below w.heap.size w w1 := later b1 (laterAlloc (laterAlloc (laterAlloc (Below.refl _ _) _) _) _)
  clear b1
  go_wp2_with fail
  refine bodyPost_ret (v := .tuple #[.agg #[.int .i64 0, .int .u16 a, .int .u16 b, .int .u16 c, .int .u16 d], .bool true]) (by simp [results, Try.results33, go_sem, r0, r1, r2, r3, r4]) rfl ⟨rfl, ?_⟩
  exact ((((B.setCell (Nat.le_refl _) _).setCell (Nat.le_refl _) _).setCell (Nat.le_refl _) _).setCell (Nat.le_refl _) _).setCell (Nat.le_refl _) _

set_option maxHeartbeats 2000000 in
theorem dataOf_1 (a b c d : Int) (w : World) (ha0 : 0 ≤ a) (ha1 : a ≤ 65535) (hb0 : 0 ≤ b) (hb1 : b ≤ 65535) (hc0 : 0 ≤ c) (hc1 : c ≤ 65535) (hd0 : 0 ≤ d) (hd1 : d ≤ 65535) :
    Calls Try.prog 33 #[.iface 59 (.agg #[.int .u16 a, .int .u16 b, .int .u16 c, .int .u16 d])] w fun e w' => e = .returned (.tuple #[.agg #[.int .i64 1, .int .u16 a, .int .u16 b, .int .u16 c, .int .u16 d], .bool true]) ∧ Below w.heap.size w w' := by
  have n0 := asNo_0 59 (.agg #[.int .u16 a, .int .u16 b, .int .u16 c, .int .u16 d]) (by decide)
  have y := asYes_1 (.agg #[.int .u16 a, .int .u16 b, .int .u16 c, .int .u16 d])
  go_enter Try.func33, Try.ntmps33
  go_wp2_with fail
  refine bodyPost_ret (v := .tuple #[.agg #[.int .i64 1, .int .u16 a, .int .u16 b, .int .u16 c, .int .u16 d], .bool true]) (by simp [results, Try.results33, go_sem]) rfl ⟨rfl, ?_⟩
  exact laterAlloc (laterAlloc (Below.refl _ _) _) _

set_option maxHeartbeats 2000000 in
theorem dataOf_2 (a b c d : Int) (w : World) (ha0 : 0 ≤ a) (ha1 : a ≤ 255) (hb0 : 0 ≤ b) (hb1 : b ≤ 255) (hc0 : 0 ≤ c) (hc1 : c ≤ 255) (hd0 : 0 ≤ d) (hd1 : d ≤ 255) :
    Calls Try.prog 33 #[.iface 60 (.agg #[.int .u8 a, .int .u8 b, .int .u8 c, .int .u8 d])] w fun e w' => e = .returned (.tuple #[.agg #[.int .i64 2, .int .u16 a, .int .u16 b, .int .u16 c, .int .u16 d], .bool true]) ∧ Below w.heap.size w w' := by
  have n0 := asNo_0 60 (.agg #[.int .u8 a, .int .u8 b, .int .u8 c, .int .u8 d]) (by decide)
  have n1 := asNo_1 60 (.agg #[.int .u8 a, .int .u8 b, .int .u8 c, .int .u8 d]) (by decide)
  have y := asYes_2 (.agg #[.int .u8 a, .int .u8 b, .int .u8 c, .int .u8 d])
  go_enter Try.func33, Try.ntmps33
  go_wp2_with fail
  refine (eight4 2 a b c d _ _ (by omega) (by omega) (by omega) (by omega) (by omega) (by omega) (by omega) (by omega) (by simp [go_sem]) (by simp [go_sem]) (by simp [go_sem]) (by simp [go_sem])).mono ?_
  rintro e w1 ⟨rfl, b1⟩
  have z : w.heap.size < w1.heap.size := by have := b1.size; simp at this; omega
  have r0 : w1.cell? ⟨w.heap.size, 0, none⟩ = some (.int .i64 0) := cell_later b1 (by simp [go_sem])
  have r1 : w1.cell? ⟨w.heap.size, 1, none⟩ = some (.int .u16 0) := cell_later b1 (by simp [go_sem])
  have r2 : w1.cell? ⟨w.heap.size, 2, none⟩ = some (.int .u16 0) := cell_later b1 (by simp [go_sem])
  have r3 : w1.cell? ⟨w.heap.size, 3, none⟩ = some (.int .u16 0) := cell_later b1 (by simp [go_sem])
  have r4 : w1.cell? ⟨w.heap.size, 4, none⟩ = some (.int .u16 0) := cell_later b1 (by simp [go_sem])
  have q : ∀ j, w1.frozen? ⟨w.heap.size, j, none⟩ = false := fun j => (b1.frozen (p := ⟨w.heap.size, j, none⟩) (by simp; omega)).trans (by simp [go_sem])
  have B : Below w.heap.size w w1 := later b1 (laterAlloc (laterAlloc (laterAlloc (Below.refl _ _) _) _) _)
  clear b1
  go_wp2_with fail
  refine bodyPost_ret (v := .tuple #[.agg #[.int .i64 2, .int .u16 a, .int .u16 b, .int .u16 c, .int .u16 d], .bool true]) (by simp [results, Try.results33, go_sem, r0, r1, r2, r3, r4]) rfl ⟨rfl, ?_⟩
  exact ((((B.setCell (Nat.le_refl _) _).setCell (Nat.le_refl _) _).setCell (Nat.le_refl _) _).setCell (Nat.le_refl _) _).setCell (Nat.le_refl _) _

set_option maxHeartbeats 2000000 in
theorem dataOf_3 (a b c d : Int) (w : World) (ha0 : 0 ≤ a) (ha1 : a ≤ 65535) (hb0 : 0 ≤ b) (hb1 : b ≤ 65535) (hc0 : 0 ≤ c) (hc1 : c ≤ 65535) (hd0 : 0 ≤ d) (hd1 : d ≤ 65535) :
    Calls Try.prog 33 #[.iface 61 (.agg #[.int .u16 a, .int .u16 b, .int .u16 c, .int .u16 d])] w fun e w' => e = .returned (.tuple #[.agg #[.int .i64 3, .int .u16 a, .int .u16 b, .int .u16 c, .int .u16 d], .bool true]) ∧ Below w.heap.size w w' := by
  have n0 := asNo_0 61 (.agg #[.int .u16 a, .int .u16 b, .int .u16 c, .int .u16 d]) (by decide)
  have n1 := asNo_1 61 (.agg #[.int .u16 a, .int .u16 b, .int .u16 c, .int .u16 d]) (by decide)
  have n2 := asNo_2 61 (.agg #[.int .u16 a, .int .u16 b, .int .u16 c, .int .u16 d]) (by decide)
  have y := asYes_3 (.agg #[.int .u16 a, .int .u16 b, .int .u16 c, .int .u16 d])
  go_enter Try.func33, Try.ntmps33
  go_wp2_with fail
  refine bodyPost_ret (v := .tuple #[.agg #[.int .i64 3, .int .u16 a, .int .u16 b, .int .u16 c, .int .u16 d], .bool true]) (by simp [results, Try.results33, go_sem]) rfl ⟨rfl, ?_⟩
  exact laterAlloc (laterAlloc (Below.refl _ _) _) _

set_option maxHeartbeats 2000000 in
theorem dataOf_4 (a : Int) (w : World) (ha0 : 0 ≤ a) (ha1 : a ≤ 255) :
    Calls Try.prog 33 #[.iface 63 (.agg #[.int .u8 a])] w fun e w' => e = .returned (.tuple #[.agg #[.int .i64 4, .int .u16 a, .int .u16 0, .int .u16 0, .int .u16 0], .bool true]) ∧ Below w.heap.size w w' := by
  have n0 := asNo_0 63 (.agg #[.int .u8 a]) (by decide)
  have n1 := asNo_1 63 (.agg #[.int .u8 a]) (by decide)
  have n2 := asNo_2 63 (.agg #[.int .u8 a]) (by decide)
  have n3 := asNo_3 63 (.agg #[.int .u8 a]) (by decide)
  have y := asYes_4 (.agg #[.int .u8 a])
  go_enter Try.func33, Try.ntmps33
  go_wp2_with fail
  refine (eight1 4 a _ _ (by omega) (by omega) (by simp [go_sem])).mono ?_
  rintro e w1 ⟨rfl, b1⟩
  have z : w.heap.size < w1.heap.size := by have := b1.size; simp at this; omega
  have r0 : w1.cell? ⟨w.heap.size, 0, none⟩ = some (.int .i64 0) := cell_later b1 (by simp [go_sem])
  have r1 : w1.cell? ⟨w.heap.size, 1, none⟩ = some (.int .u16 0) := cell_later b1 (by simp [go_sem])
  have r2 : w1.cell? ⟨w.heap.size, 2, none⟩ = some (.int .u16 0) := cell_later b1 (by simp [go_sem])
  have r3 : w1.cell? ⟨w.heap.size, 3, none⟩ = some (.int .u16 0) := cell_later b1 (by simp [go_sem])
  have r4 : w1.cell? ⟨w.heap.size, 4, none⟩ = some (.int .u16 0) := cell_later b1 (by simp [go_sem])
  have q : ∀ j, w1.frozen? ⟨w.heap.size, j, none⟩ = false := fun j => (b1.frozen (p := ⟨w.heap.size, j, none⟩) (by simp; omega)).trans (by simp [go_sem])
  have B : Below w.heap.size w w1 := later b1 (laterAlloc (laterAlloc (laterAlloc (Below.refl _ _) _) _) _)
  clear b1
  go_wp2_with fail
  refine bodyPost_ret (v := .tuple #[.agg #[.int .i64 4, .int .u16 a, .int .u16 0, .int .u16 0, .int .u16 0], .bool true]) (by simp [results, Try.results33, go_sem, r0, r1, r2, r3, r4]) rfl ⟨rfl, ?_⟩
  exact ((((B.setCell (Nat.le_refl _) _).setCell (Nat.le_refl _) _).setCell (Nat.le_refl _) _).setCell (Nat.le_refl _) _).setCell (Nat.le_refl _) _

set_option maxHeartbeats 2000000 in
theorem dataOf_5 (a : Int) (w : World) (ha0 : 0 ≤ a) (ha1 : a ≤ 65535) :
    Calls Try.prog 33 #[.iface 65 (.agg #[.int .u16 a])] w fun e w' => e = .returned (.tuple #[.agg #[.int .i64 5, .int .u16 a, .int .u16 0, .int .u16 0, .int .u16 0], .bool true]) ∧ Below w.heap.size w w' := by
  have n0 := asNo_0 65 (.agg #[.int .u16 a]) (by decide)
  have n1 := asNo_1 65 (.agg #[.int .u16 a]) (by decide)
  have n2 := asNo_2 65 (.agg #[.int .u16 a]) (by decide)
  have n3 := asNo_3 65 (.agg #[.int .u16 a]) (by decide)
  have n4 := asNo_4 65 (.agg #[.int .u16 a]) (by decide)
  have y := asYes_5 (.agg #[.int .u16 a])
  go_enter Try.func33, Try.ntmps33
  go_wp2_with fail
  refine bodyPost_ret (v := .tuple #[.agg #[.int .i64 5, .int .u16 a, .int .u16 0, .int .u16 0, .int .u16 0], .bool true]) (by simp [results, Try.results33, go_sem]) rfl ⟨rfl, ?_⟩
  exact laterAlloc (laterAlloc (Below.refl _ _) _) _

set_option maxHeartbeats 2000000 in
theorem dataOf_6 (a : Int) (w : World) (ha0 : 0 ≤ a) (ha1 : a ≤ 255) :
    Calls Try.prog 33 #[.iface 67 (.agg #[.int .u8 a])] w fun e w' => e = .returned (.tuple #[.agg #[.int .i64 6, .int .u16 a, .int .u16 0, .int .u16 0, .int .u16 0], .bool true]) ∧ Below w.heap.size w w' := by
  have n0 := asNo_0 67 (.agg #[.int .u8 a]) (by decide)
  have n1 := asNo_1 67 (.agg #[.int .u8 a]) (by decide)
  have n2 := asNo_2 67 (.agg #[.int .u8 a]) (by decide)
  have n3 := asNo_3 67 (.agg #[.int .u8 a]) (by decide)
  have n4 := asNo_4 67 (.agg #[.int .u8 a]) (by decide)
  have n5 := asNo_5 67 (.agg #[.int .u8 a]) (by decide)
  have y := asYes_6 (.agg #[.int .u8 a])
  go_enter Try.func33, Try.ntmps33
  go_wp2_with fail
  refine (eight1 6 a _ _ (by omega) (by omega) (by simp [go_sem])).mono ?_
  rintro e w1 ⟨rfl, b1⟩
  have z : w.heap.size < w1.heap.size := by have := b1.size; simp at this; omega
  have r0 : w1.cell? ⟨w.heap.size, 0, none⟩ = some (.int .i64 0) := cell_later b1 (by simp [go_sem])
  have r1 : w1.cell? ⟨w.heap.size, 1, none⟩ = some (.int .u16 0) := cell_later b1 (by simp [go_sem])
  have r2 : w1.cell? ⟨w.heap.size, 2, none⟩ = some (.int .u16 0) := cell_later b1 (by simp [go_sem])
  have r3 : w1.cell? ⟨w.heap.size, 3, none⟩ = some (.int .u16 0) := cell_later b1 (by simp [go_sem])
  have r4 : w1.cell? ⟨w.heap.size, 4, none⟩ = some (.int .u16 0) := cell_later b1 (by simp [go_sem])
  have q : ∀ j, w1.frozen? ⟨w.heap.size, j, none⟩ = false := fun j => (b1.frozen (p := ⟨w.heap.size, j, none⟩) (by simp; omega)).trans (by simp [go_sem])
  have B : Below w.heap.size w w1 := later b1 (laterAlloc (laterAlloc (laterAlloc (Below.refl _ _) _) _) _)
  clear b1
  go_wp2_with fail
  refine bodyPost_ret (v := .tuple #[.agg #[.int .i64 6, .int .u16 a, .int .u16 0, .int .u16 0, .int .u16 0], .bool true]) (by simp [results, Try.results33, go_sem, r0, r1, r2, r3, r4]) rfl ⟨rfl, ?_⟩
  exact ((((B.setCell (Nat.le_refl _) _).setCell (Nat.le_refl _) _).setCell (Nat.le_refl _) _).setCell (Nat.le_refl _) _).setCell (Nat.le_refl _) _

set_option maxHeartbeats 2000000 in
theorem dataOf_7 (a : Int) (w : World) (ha0 : 0 ≤ a) (ha1 : a ≤ 65535) :
    Calls Try.prog 33 #[.iface 69 (.agg #[.int .u16 a])] w fun e w' => e = .returned (.tuple #[.agg #[.int .i64 7, .int .u16 a, .int .u16 0, .int .u16 0, .int .u16 0], .bool true]) ∧ Below w.heap.size w w' := by
  have n0 := asNo_0 69 (.agg #[.int .u16 a]) (by decide)
  have n1 := asNo_1 69 (.agg #[.int .u16 a]) (by decide)
  have n2 := asNo_2 69 (.agg #[.int .u16 a]) (by decide)
  have n3 := asNo_3 69 (.agg #[.int .u16 a]) (by decide)
  have n4 := asNo_4 69 (.agg #[.int .u16 a]) (by decide)
  have n5 := asNo_5 69 (.agg #[.int .u16 a]) (by decide)
  have n6 := asNo_6 69 (.agg #[.int .u16 a]) (by decide)
  have y := asYes_7 (.agg #[.int .u16 a])
  go_enter Try.func33, Try.ntmps33
  go_wp2_with fail
  refine bodyPost_ret (v := .tuple #[.agg #[.int .i64 7, .int .u16 a, .int .u16 0, .int .u16 0, .int .u16 0], .bool true]) (by simp [results, Try.results33, go_sem]) rfl ⟨rfl, ?_⟩
  exact laterAlloc (laterAlloc (Below.refl _ _) _) _

set_option maxHeartbeats 2000000 in
theorem dataOf_8 (a b c d : Int) (w : World) (ha0 : 0 ≤ a) (ha1 : a ≤ 255) (hb0 : 0 ≤ b) (hb1 : b ≤ 255) (hc0 : 0 ≤ c) (hc1 : c ≤ 255) (hd0 : 0 ≤ d) (hd1 : d ≤ 255) :
    Calls Try.prog 33 #[.iface 71 (.agg #[.int .u8 a, .int .u8 b, .int .u8 c, .int .u8 d])] w fun e w' => e = .returned (.tuple #[.agg #[.int .i64 8, .int .u16 a, .int .u16 b, .int .u16 c, .int .u16 d], .bool true]) ∧ Below w.heap.size w w' := by
  have n0 := asNo_0 71 (.agg #[.int .u8 a, .int .u8 b, .int .u8 c, .int .u8 d]) (by decide)
  have n1 := asNo_1 71 (.agg #[.int .u8 a, .int .u8 b, .int .u8 c, .int .u8 d]) (by decide)
  have n2 := asNo_2 71 (.agg #[.int .u8 a, .int .u8 b, .int .u8 c, .int .u8 d]) (by decide)
  have n3 := asNo_3 71 (.agg #[.int .u8 a, .int .u8 b, .int .u8 c, .int .u8 d]) (by decide)
  have n4 := asNo_4 71 (.agg #[.int .u8 a, .int .u8 b, .int .u8 c, .int .u8 d]) (by decide)
  have n5 := asNo_5 71 (.agg #[.int .u8 a, .int .u8 b, .int .u8 c, .int .u8 d]) (by decide)
  have n6 := asNo_6 71 (.agg #[.int .u8 a, .int .u8 b, .int .u8 c, .int .u8 d]) (by decide)
  have n7 := asNo_7 71 (.agg #[.int .u8 a, .int .u8 b, .int .u8 c, .int .u8 d]) (by decide)
  have y := asYes_8 (.agg #[.int .u8 a, .int .u8 b, .int .u8 c, .int .u8 d])
  go_enter Try.func33, Try.ntmps33
  go_wp2_with fail
  refine (eight4 8 a b c d _ _ (by omega) (by omega) (by omega) (by omega) (by omega) (by omega) (by omega) (by omega) (by simp [go_sem]) (by simp [go_sem]) (by simp [go_sem]) (by simp [go_sem])).mono ?_
  rintro e w1 ⟨rfl, b1⟩
  have z : w.heap.size < w1.heap.size := by have := b1.size; simp at this; omega
  have r0 : w1.cell? ⟨w.heap.size, 0, none⟩ = some (.int .i64 0) := cell_later b1 (by simp [go_sem])
  have r1 : w1.cell? ⟨w.heap.size, 1, none⟩ = some (.int .u16 0) := cell_later b1 (by simp [go_sem])
  have r2 : w1.cell? ⟨w.heap.size, 2, none⟩ = some (.int .u16 0) := cell_later b1 (by simp [go_sem])
  have r3 : w1.cell? ⟨w.heap.size, 3, none⟩ = some (.int .u16 0) := cell_later b1 (by simp [go_sem])
  have r4 : w1.cell? ⟨w.heap.size, 4, none⟩ = some (.int .u16 0) := cell_later b1 (by simp [go_sem])
  have q : ∀ j, w1.frozen? ⟨w.heap.size, j, none⟩ = false := fun j => (b1.frozen (p := ⟨w.heap.size, j, none⟩) (by simp; omega)).trans (by simp [go_sem])
  have B : Below w.heap.size w w1 := later b1 (laterAlloc (laterAlloc (laterAlloc (Below.refl _ _) _) _) _)
  clear b1
  go_wp2_with fail
  refine bodyPost_ret (v := .tuple #[.agg #[.int .i64 8, .int .u16 a, .int .u16 b, .int .u16 c, .int .u16 d], .bool true]) (by simp [results, Try.results33, go_sem, r0, r1, r2, r3, r4]) rfl ⟨rfl, ?_⟩
  exact ((((B.setCell (Nat.le_refl _) _).setCell (Nat.le_refl _) _).setCell (Nat.le_refl _) _).setCell (Nat.le_refl _) _).setCell (Nat.le_refl _) _

set_option maxHeartbeats 2000000 in
theorem dataOf_9 (a b c : Int) (w : World) (ha0 : 0 ≤ a) (ha1 : a ≤ 255) (hb0 : 0 ≤ b) (hb1 : b ≤ 255) (hc0 : 0 ≤ c) (hc1 : c ≤ 255) :
    Calls Try.prog 33 #[.iface 73 (.agg #[.int .u8 a, .int .u8 b, .int .u8 c])] w fun e w' => e = .returned (.tuple #[.agg #[.int .i64 9, .int .u16 a, .int .u16 b, .int .u16 c, .int .u16 0], .bool true]) ∧ Below w.heap.size w w' := by
  have n0 := asNo_0 73 (.agg #[.int .u8 a, .int .u8 b, .int .u8 c]) (by decide)
  have n1 := asNo_1 73 (.agg #[.int .u8 a, .int .u8 b, .int .u8 c]) (by decide)
  have n2 := asNo_2 73 (.agg #[.int .u8 a, .int .u8 b, .int .u8 c]) (by decide)
  have n3 := asNo_3 73 (.agg #[.int .u8 a, .int .u8 b, .int .u8 c]) (by decide)
  have n4 := asNo_4 73 (.agg #[.int .u8 a, .int .u8 b, .int .u8 c]) (by decide)
  have n5 := asNo_5 73 (.agg #[.int .u8 a, .int .u8 b, .int .u8 c]) (by decide)
  have n6 := asNo_6 73 (.agg #[.int .u8 a, .int .u8 b, .int .u8 c]) (by decide)
  have n7 := asNo_7 73 (.agg #[.int .u8 a, .int .u8 b, .int .u8 c]) (by decide)
  have n8 := asNo_8 73 (.agg #[.int .u8 a, .int .u8 b, .int .u8 c]) (by decide)
  have y := asYes_9 (.agg #[.int .u8 a, .int .u8 b, .int .u8 c])
  go_enter Try.func33, Try.ntmps33
  go_wp2_with fail
  refine (eight3 9 a b c _ _ (by omega) (by omega) (by omega) (by omega) (by omega) (by omega) (by simp [go_sem]) (by simp [go_sem]) (by simp [go_sem])).mono ?_
  rintro e w1 ⟨rfl, b1⟩
  have z : w.heap.size < w1.heap.size := by have := b1.size; simp at this; omega
  have r0 : w1.cell? ⟨w.heap.size, 0, none⟩ = some (.int .i64 0) := cell_later b1 (by simp [go_sem])
  have r1 : w1.cell? ⟨w.heap.size, 1, none⟩ = some (.int .u16 0) := cell_later b1 (by simp [go_sem])
  have r2 : w1.cell? ⟨w.heap.size, 2, none⟩ = some (.int .u16 0) := cell_later b1 (by simp [go_sem])
  have r3 : w1.cell? ⟨w.heap.size, 3, none⟩ = some (.int .u16 0) := cell_later b1 (by simp [go_sem])
  have r4 : w1.cell? ⟨w.heap.size, 4, none⟩ = some (.int .u16 0) := cell_later b1 (by simp [go_sem])
  have q : ∀ j, w1.frozen? ⟨w.heap.size, j, none⟩ = false := fun j => (b1.frozen (p := ⟨w.heap.size, j, none⟩) (by simp; omega)).trans (by simp [go_sem])
  have B : Below w.heap.size w w1 := later b1 (laterAlloc (laterAlloc (laterAlloc (Below.refl _ _) _) _) _)
  clear b1
  go_wp2_with fail
  refine bodyPost_ret (v := .tuple #[.agg #[.int .i64 9, .int .u16 a, .int .u16 b, .int .u16 c, .int .u16 0], .bool true]) (by simp [results, Try.results33, go_sem, r0, r1, r2, r3, r4]) rfl ⟨rfl, ?_⟩
  exact ((((B.setCell (Nat.le_refl _) _).setCell (Nat.le_refl _) _).setCell (Nat.le_refl _) _).setCell (Nat.le_refl _) _).setCell (Nat.le_refl _) _

set_option maxHeartbeats 2000000 in
theorem dataOf_10 (a b c d : Int) (w : World) (ha0 : 0 ≤ a) (ha1 : a ≤ 255) (hb0 : 0 ≤ b) (hb1 : b ≤ 255) (hc0 : 0 ≤ c) (hc1 : c ≤ 255) (hd0 : 0 ≤ d) (hd1 : d ≤ 255) :
    Calls Try.prog 33 #[.iface 75 (.agg #[.int .u8 a, .int .u8 b, .int .u8 c, .int .u8 d])] w fun e w' => e = .returned (.tuple #[.agg #[.int .i64 10, .int .u16 a, .int .u16 b, .int .u16 c, .int .u16 d], .bool true]) ∧ Below w.heap.size w w' := by
  have n0 := asNo_0 75 (.agg #[.int .u8 a, .int .u8 b, .int .u8 c, .int .u8 d]) (by decide)
  have n1 := asNo_1 75 (.agg #[.int .u8 a, .int .u8 b, .int .u8 c, .int .u8 d]) (by decide)
  have n2 := asNo_2 75 (.agg #[.int .u8 a, .int .u8 b, .int .u8 c, .int .u8 d]) (by decide)
  have n3 := asNo_3 75 (.agg #[.int .u8 a, .int .u8 b, .int .u8 c, .int .u8 d]) (by decide)
  have n4 := asNo_4 75 (.agg #[.int .u8 a, .int .u8 b, .int .u8 c, .int .u8 d]) (by decide)
  have n5 := asNo_5 75 (.agg #[.int .u8 a, .int .u8 b, .int .u8 c, .int .u8 d]) (by decide)
  have n6 := asNo_6 75 (.agg #[.int .u8 a, .int .u8 b, .int .u8 c, .int .u8 d]) (by decide)
  have n7 := asNo_7 75 (.agg #[.int .u8 a, .int .u8 b, .int .u8 c, .int .u8 d]) (by decide)
  have n8 := asNo_8 75 (.agg #[.int .u8 a, .int .u8 b, .int .u8 c, .int .u8 d]) (by decide)
  have n9 := asNo_9 75 (.agg #[.int .u8 a, .int .u8 b, .int .u8 c, .int .u8 d]) (by decide)
  have y := asYes_10 (.agg #[.int .u8 a, .int .u8 b, .int .u8 c, .int .u8 d])
  go_enter Try.func33, Try.ntmps33
  go_wp2_with fail
  refine (eight4 10 a b c d _ _ (by omega) (by omega) (by omega) (by omega) (by omega) (by omega) (by omega) (by omega) (by simp [go_sem]) (by simp [go_sem]) (by simp [go_sem]) (by simp [go_sem])).mono ?_
  rintro e w1 ⟨rfl, b1⟩
  have z : w.heap.size < w1.heap.size := by have := b1.size; simp at this; omega
  have r0 : w1.cell? ⟨w.heap.size, 0, none⟩ = some (.int .i64 0) := cell_later b1 (by simp [go_sem])
  have r1 : w1.cell? ⟨w.heap.size, 1, none⟩ = some (.int .u16 0) := cell_later b1 (by simp [go_sem])
  have r2 : w1.cell? ⟨w.heap.size, 2, none⟩ = some (.int .u16 0) := cell_later b1 (by simp [go_sem])
  have r3 : w1.cell? ⟨w.heap.size, 3, none⟩ = some (.int .u16 0) := cell_later b1 (by simp [go_sem])
  have r4 : w1.cell? ⟨w.heap.size, 4, none⟩ = some (.int .u16 0) := cell_later b1 (by simp [go_sem])
  have q : ∀ j, w1.frozen? ⟨w.heap.size, j, none⟩ = false := fun j => (b1.frozen (p := ⟨w.heap.size, j, none⟩) (by simp; omega)).trans (by simp [go_sem])
  have B : Below w.heap.size w w1 := later b1 (laterAlloc (laterAlloc (laterAlloc (Below.refl _ _) _) _) _)
  clear b1
  go_wp2_with fail
  refine bodyPost_ret (v := .tuple #[.agg #[.int .i64 10, .int .u16 a, .int .u16 b, .int .u16 c, .int .u16 d], .bool true]) (by simp [results, Try.results33, go_sem, r0, r1, r2, r3, r4]) rfl ⟨rfl, ?_⟩
  exact ((((B.setCell (Nat.le_refl _) _).setCell (Nat.le_refl _) _).setCell (Nat.le_refl _) _).setCell (Nat.le_refl _) _).setCell (Nat.le_refl _) _

theorem dataOf_any (k a b c d : Int) (w : World) (h : proper k a b c d) :
    Calls Try.prog 33 #[.iface (tyOf k) (pay k a b c d)] w fun e w' => e = .returned (.tuple #[.agg #[.int .i64 k, .int .u16 a, .int .u16 b, .int .u16 c, .int .u16 d], .bool true]) ∧ Below w.heap.size w w' := by
  have hk := proper_kind h
  unfold proper at h
  rcases hk with rfl | rfl | rfl | rfl | rfl | rfl | rfl | rfl | rfl | rfl | rfl
  · exact dataOf_0 a b c d w (by omega) (by omega) (by omega) (by omega) (by omega) (by omega) (by omega) (by omega)
  · exact dataOf_1 a b c d w (by omega) (by omega) (by omega) (by omega) (by omega) (by omega) (by omega) (by omega)
  · exact dataOf_2 a b c d w (by omega) (by omega) (by omega) (by omega) (by omega) (by omega) (by omega) (by omega)
  · exact dataOf_3 a b c d w (by omega) (by omega) (by omega) (by omega) (by omega) (by omega) (by omega) (by omega)
  · obtain ⟨rfl, rfl, rfl⟩ : b = 0 ∧ c = 0 ∧ d = 0 := by omega
    exact dataOf_4 a w (by omega) (by omega)
  · obtain ⟨rfl, rfl, rfl⟩ : b = 0 ∧ c = 0 ∧ d = 0 := by omega
    exact dataOf_5 a w (by omega) (by omega)
  · obtain ⟨rfl, rfl, rfl⟩ : b = 0 ∧ c = 0 ∧ d = 0 := by omega
    exact dataOf_6 a w (by omega) (by omega)
  · obtain ⟨rfl, rfl, rfl⟩ : b = 0 ∧ c = 0 ∧ d = 0 := by omega
    exact dataOf_7 a w (by omega) (by omega)
  · exact dataOf_8 a b c d w (by omega) (by omega) (by omega) (by omega) (by omega) (by omega) (by omega) (by omega)
  · obtain ⟨rfl⟩ : d = 0 := by omega
    exact dataOf_9 a b c w (by omega) (by omega) (by omega) (by omega) (by omega) (by omega)
  · exact dataOf_10 a b c d w (by omega) (by omega) (by omega) (by omega) (by omega) (by omega) (by omega) (by omega)
end Go.Proofs.Ytbehpaclnpildaa
