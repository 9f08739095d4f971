/- dataOf gives the data of an interface value of a color. -/
import Derived.Test.YtmfjacbpcgcdjaaColor
import Derived.WalkKit
import Derived.ProofKit
import Derived.OpenShut
import Derived.Outline
import Derived.WalkLawsBesides
import Derived.LoopN
import Derived.Lib.Hide
import Derived.Test.YtmfjacbpcgcdjaaEight
namespace Go.Proofs.Ytmfjacbpcgcdjaa
open Go.ChangeShapes Go.WideShapes Go.ChangeAt Go.RowKit Plain
set_option linter.unusedVariables false

theorem asYes_0 (v : Value) (w : World) : (Instr.typeAssert (.iface 64 v) 51 64 true).run Try.prog w = .ok (.tuple #[v, .bool true]) w := by kernel_rfl
theorem asNo_0 (u : TypeId) (v : Value) (h : u ≠ 64) (w : World) : (Instr.typeAssert (.iface u v) 51 64 true).run Try.prog w = .ok (.tuple #[.agg #[.int .u8 0, .int .u8 0, .int .u8 0, .int .u8 0], .bool false]) w := by
  have e : (Instr.typeAssert (.iface u v) 51 64 true).run Try.prog w = (if u = 64 then (pure (Value.tuple #[v, .bool true]) : Sem Value) else (do pure (Value.tuple #[← zeroValue 64, .bool false]))).run Try.prog w := by kernel_rfl
  have z : (do pure (Value.tuple #[← zeroValue 64, .bool false]) : Sem Value).run Try.prog w = .ok (.tuple #[.agg #[.int .u8 0, .int .u8 0, .int .u8 0, .int .u8 0], .bool false]) w := by kernel_rfl
  rw [e, if_neg h]
  exact z

theorem asYes_1 (v : Value) (w : World) : (Instr.typeAssert (.iface 66 v) 51 66 true).run Try.prog w = .ok (.tuple #[v, .bool true]) w := by kernel_rfl
theorem asNo_1 (u : TypeId) (v : Value) (h : u ≠ 66) (w : World) : (Instr.typeAssert (.iface u v) 51 66 true).run Try.prog w = .ok (.tuple #[.agg #[.int .u16 0, .int .u16 0, .int .u16 0, .int .u16 0], .bool false]) w := by
  have e : (Instr.typeAssert (.iface u v) 51 66 true).run Try.prog w = (if u = 66 then (pure (Value.tuple #[v, .bool true]) : Sem Value) else (do pure (Value.tuple #[← zeroValue 66, .bool false]))).run Try.prog w := by kernel_rfl
  have z : (do pure (Value.tuple #[← zeroValue 66, .bool false]) : Sem Value).run Try.prog w = .ok (.tuple #[.agg #[.int .u16 0, .int .u16 0, .int .u16 0, .int .u16 0], .bool false]) w := by kernel_rfl
  rw [e, if_neg h]
  exact z

theorem asYes_2 (v : Value) (w : World) : (Instr.typeAssert (.iface 67 v) 51 67 true).run Try.prog w = .ok (.tuple #[v, .bool true]) w := by kernel_rfl
theorem asNo_2 (u : TypeId) (v : Value) (h : u ≠ 67) (w : World) : (Instr.typeAssert (.iface u v) 51 67 true).run Try.prog w = .ok (.tuple #[.agg #[.int .u8 0, .int .u8 0, .int .u8 0, .int .u8 0], .bool false]) w := by
  have e : (Instr.typeAssert (.iface u v) 51 67 true).run Try.prog w = (if u = 67 then (pure (Value.tuple #[v, .bool true]) : Sem Value) else (do pure (Value.tuple #[← zeroValue 67, .bool false]))).run Try.prog w := by kernel_rfl
  have z : (do pure (Value.tuple #[← zeroValue 67, .bool false]) : Sem Value).run Try.prog w = .ok (.tuple #[.agg #[.int .u8 0, .int .u8 0, .int .u8 0, .int .u8 0], .bool false]) w := by kernel_rfl
  rw [e, if_neg h]
  exact z

theorem asYes_3 (v : Value) (w : World) : (Instr.typeAssert (.iface 68 v) 51 68 true).run Try.prog w = .ok (.tuple #[v, .bool true]) w := by kernel_rfl
theorem asNo_3 (u : TypeId) (v : Value) (h : u ≠ 68) (w : World) : (Instr.typeAssert (.iface u v) 51 68 true).run Try.prog w = .ok (.tuple #[.agg #[.int .u16 0, .int .u16 0, .int .u16 0, .int .u16 0], .bool false]) w := by
  have e : (Instr.typeAssert (.iface u v) 51 68 true).run Try.prog w = (if u = 68 then (pure (Value.tuple #[v, .bool true]) : Sem Value) else (do pure (Value.tuple #[← zeroValue 68, .bool false]))).run Try.prog w := by kernel_rfl
  have z : (do pure (Value.tuple #[← zeroValue 68, .bool false]) : Sem Value).run Try.prog w = .ok (.tuple #[.agg #[.int .u16 0, .int .u16 0, .int .u16 0, .int .u16 0], .bool false]) w := by kernel_rfl
  rw [e, if_neg h]
  exact z

theorem asYes_4 (v : Value) (w : World) : (Instr.typeAssert (.iface 70 v) 51 70 true).run Try.prog w = .ok (.tuple #[v, .bool true]) w := by kernel_rfl
theorem asNo_4 (u : TypeId) (v : Value) (h : u ≠ 70) (w : World) : (Instr.typeAssert (.iface u v) 51 70 true).run Try.prog w = .ok (.tuple #[.agg #[.int .u8 0], .bool false]) w := by
  have e : (Instr.typeAssert (.iface u v) 51 70 true).run Try.prog w = (if u = 70 then (pure (Value.tuple #[v, .bool true]) : Sem Value) else (do pure (Value.tuple #[← zeroValue 70, .bool false]))).run Try.prog w := by kernel_rfl
  have z : (do pure (Value.tuple #[← zeroValue 70, .bool false]) : Sem Value).run Try.prog w = .ok (.tuple #[.agg #[.int .u8 0], .bool false]) w := by kernel_rfl
  rw [e, if_neg h]
  exact z

theorem asYes_5 (v : Value) (w : World) : (Instr.typeAssert (.iface 72 v) 51 72 true).run Try.prog w = .ok (.tuple #[v, .bool true]) w := by kernel_rfl
theorem asNo_5 (u : TypeId) (v : Value) (h : u ≠ 72) (w : World) : (Instr.typeAssert (.iface u v) 51 72 true).run Try.prog w = .ok (.tuple #[.agg #[.int .u16 0], .bool false]) w := by
  have e : (Instr.typeAssert (.iface u v) 51 72 true).run Try.prog w = (if u = 72 then (pure (Value.tuple #[v, .bool true]) : Sem Value) else (do pure (Value.tuple #[← zeroValue 72, .bool false]))).run Try.prog w := by kernel_rfl
  have z : (do pure (Value.tuple #[← zeroValue 72, .bool false]) : Sem Value).run Try.prog w = .ok (.tuple #[.agg #[.int .u16 0], .bool false]) w := by kernel_rfl
  rw [e, if_neg h]
  exact z

theorem asYes_6 (v : Value) (w : World) : (Instr.typeAssert (.iface 74 v) 51 74 true).run Try.prog w = .ok (.tuple #[v, .bool true]) w := by kernel_rfl
theorem asNo_6 (u : TypeId) (v : Value) (h : u ≠ 74) (w : World) : (Instr.typeAssert (.iface u v) 51 74 true).run Try.prog w = .ok (.tuple #[.agg #[.int .u8 0], .bool false]) w := by
  have e : (Instr.typeAssert (.iface u v) 51 74 true).run Try.prog w = (if u = 74 then (pure (Value.tuple #[v, .bool true]) : Sem Value) else (do pure (Value.tuple #[← zeroValue 74, .bool false]))).run Try.prog w := by kernel_rfl
  have z : (do pure (Value.tuple #[← zeroValue 74, .bool false]) : Sem Value).run Try.prog w = .ok (.tuple #[.agg #[.int .u8 0], .bool false]) w := by kernel_rfl
  rw [e, if_neg h]
  exact z

theorem asYes_7 (v : Value) (w : World) : (Instr.typeAssert (.iface 76 v) 51 76 true).run Try.prog w = .ok (.tuple #[v, .bool true]) w := by kernel_rfl
theorem asNo_7 (u : TypeId) (v : Value) (h : u ≠ 76) (w : World) : (Instr.typeAssert (.iface u v) 51 76 true).run Try.prog w = .ok (.tuple #[.agg #[.int .u16 0], .bool false]) w := by
  have e : (Instr.typeAssert (.iface u v) 51 76 true).run Try.prog w = (if u = 76 then (pure (Value.tuple #[v, .bool true]) : Sem Value) else (do pure (Value.tuple #[← zeroValue 76, .bool false]))).run Try.prog w := by kernel_rfl
  have z : (do pure (Value.tuple #[← zeroValue 76, .bool false]) : Sem Value).run Try.prog w = .ok (.tuple #[.agg #[.int .u16 0], .bool false]) w := by kernel_rfl
  rw [e, if_neg h]
  exact z

theorem asYes_8 (v : Value) (w : World) : (Instr.typeAssert (.iface 78 v) 51 78 true).run Try.prog w = .ok (.tuple #[v, .bool true]) w := by kernel_rfl
theorem asNo_8 (u : TypeId) (v : Value) (h : u ≠ 78) (w : World) : (Instr.typeAssert (.iface u v) 51 78 true).run Try.prog w = .ok (.tuple #[.agg #[.int .u8 0, .int .u8 0, .int .u8 0, .int .u8 0], .bool false]) w := by
  have e : (Instr.typeAssert (.iface u v) 51 78 true).run Try.prog w = (if u = 78 then (pure (Value.tuple #[v, .bool true]) : Sem Value) else (do pure (Value.tuple #[← zeroValue 78, .bool false]))).run Try.prog w := by kernel_rfl
  have z : (do pure (Value.tuple #[← zeroValue 78, .bool false]) : Sem Value).run Try.prog w = .ok (.tuple #[.agg #[.int .u8 0, .int .u8 0, .int .u8 0, .int .u8 0], .bool false]) w := by kernel_rfl
  rw [e, if_neg h]
  exact z

theorem asYes_9 (v : Value) (w : World) : (Instr.typeAssert (.iface 80 v) 51 80 true).run Try.prog w = .ok (.tuple #[v, .bool true]) w := by kernel_rfl
theorem asNo_9 (u : TypeId) (v : Value) (h : u ≠ 80) (w : World) : (Instr.typeAssert (.iface u v) 51 80 true).run Try.prog w = .ok (.tuple #[.agg #[.int .u8 0, .int .u8 0, .int .u8 0], .bool false]) w := by
  have e : (Instr.typeAssert (.iface u v) 51 80 true).run Try.prog w = (if u = 80 then (pure (Value.tuple #[v, .bool true]) : Sem Value) else (do pure (Value.tuple #[← zeroValue 80, .bool false]))).run Try.prog w := by kernel_rfl
  have z : (do pure (Value.tuple #[← zeroValue 80, .bool false]) : Sem Value).run Try.prog w = .ok (.tuple #[.agg #[.int .u8 0, .int .u8 0, .int .u8 0], .bool false]) w := by kernel_rfl
  rw [e, if_neg h]
  exact z

theorem asYes_10 (v : Value) (w : World) : (Instr.typeAssert (.iface 82 v) 51 82 true).run Try.prog w = .ok (.tuple #[v, .bool true]) w := by kernel_rfl
theorem asNo_10 (u : TypeId) (v : Value) (h : u ≠ 82) (w : World) : (Instr.typeAssert (.iface u v) 51 82 true).run Try.prog w = .ok (.tuple #[.agg #[.int .u8 0, .int .u8 0, .int .u8 0, .int .u8 0], .bool false]) w := by
  have e : (Instr.typeAssert (.iface u v) 51 82 true).run Try.prog w = (if u = 82 then (pure (Value.tuple #[v, .bool true]) : Sem Value) else (do pure (Value.tuple #[← zeroValue 82, .bool false]))).run Try.prog w := by kernel_rfl
  have z : (do pure (Value.tuple #[← zeroValue 82, .bool false]) : Sem Value).run Try.prog w = .ok (.tuple #[.agg #[.int .u8 0, .int .u8 0, .int .u8 0, .int .u8 0], .bool false]) w := by kernel_rfl
  rw [e, if_neg h]
  exact z

set_option maxHeartbeats 2000000 in
theorem dataOf_0 (a b c d : Int) (w : World) (ha0 : 0 ≤ a) (ha1 : a ≤ 255) (hb0 : 0 ≤ b) (hb1 : b ≤ 255) (hc0 : 0 ≤ c) (hc1 : c ≤ 255) (hd0 : 0 ≤ d) (hd1 : d ≤ 255) :
    Calls Try.prog 31 #[.iface 64 (.agg #[.int .u8 a, .int .u8 b, .int .u8 c, .int .u8 d])] w fun e w' => e = .returned (.tuple #[.agg #[.int .i64 0, .int .u16 a, .int .u16 b, .int .u16 c, .int .u16 d], .bool true]) ∧ Below w.heap.size w w' := by
  have y := asYes_0 (.agg #[.int .u8 a, .int .u8 b, .int .u8 c, .int .u8 d])
  go_enter Try.func31, Try.ntmps31
  go_wp2_with fail
  refine (eight4 0 a b c d _ _ (by omega) (by omega) (by omega) (by omega) (by omega) (by omega) (by omega) (by omega) (by simp [go_sem]) (by simp [go_sem]) (by simp [go_sem]) (by simp [go_sem])).mono ?_
  rintro e w1 ⟨rfl, b1⟩
  have z : w.heap.size < w1.heap.size := by have := b1.size; simp at this; omega
  have r0 : w1.cell? ⟨w.heap.size, 0, none⟩ = some (.int .i64 0) := cell_later b1 (by simp [go_sem])
  have r1 : w1.cell? ⟨w.heap.size, 1, none⟩ = some (.int .u16 0) := cell_later b1 (by simp [go_sem])
  have r2 : w1.cell? ⟨w.heap.size, 2, none⟩ = some (.int .u16 0) := cell_later b1 (by simp [go_sem])
  have r3 : w1.cell? ⟨w.heap.size, 3, none⟩ = some (.int .u16 0) := cell_later b1 (by simp [go_sem])
  have r4 : w1.cell? ⟨w.heap.size, 4, none⟩ = some (.int .u16 0) := cell_later b1 (by simp [go_sem])
  have q : ∀ j, w1.frozen? ⟨w.heap.size, j, none⟩ = false := fun j => (b1.frozen (p := ⟨w.heap.size, j, none⟩) (by simp; omega)).trans (by simp [go_sem])
  have B : Below w.heap.size w w1 := later b1 (laterAlloc (laterAlloc (laterAlloc (Below.refl _ _) _) _) _)
  clear b1
  go_wp2_with fail
  refine bodyPost_ret (v := .tuple #[.agg #[.int .i64 0, .int .u16 a, .int .u16 b, .int .u16 c, .int .u16 d], .bool true]) (by simp [results, Try.results31, go_sem, r0, r1, r2, r3, r4]) rfl ⟨rfl, ?_⟩
  exact ((((B.setCell (Nat.le_refl _) _).setCell (Nat.le_refl _) _).setCell (Nat.le_refl _) _).setCell (Nat.le_refl _) _).setCell (Nat.le_refl _) _

set_option maxHeartbeats 2000000 in
theorem dataOf_1 (a b c d : Int) (w : World) (ha0 : 0 ≤ a) (ha1 : a ≤ 65535) (hb0 : 0 ≤ b) (hb1 : b ≤ 65535) (hc0 : 0 ≤ c) (hc1 : c ≤ 65535) (hd0 : 0 ≤ d) (hd1 : d ≤ 65535) :
    Calls Try.prog 31 #[.iface 66 (.agg #[.int .u16 a, .int .u16 b, .int .u16 c, .int .u16 d])] w fun e w' => e = .returned (.tuple #[.agg #[.int .i64 1, .int .u16 a, .int .u16 b, .int .u16 c, .int .u16 d], .bool true]) ∧ Below w.heap.size w w' := by
  have n0 := asNo_0 66 (.agg #[.int .u16 a, .int .u16 b, .int .u16 c, .int .u16 d]) (by decide)
  have y := asYes_1 (.agg #[.int .u16 a, .int .u16 b, .int .u16 c, .int .u16 d])
  go_enter Try.func31, Try.ntmps31
  go_wp2_with fail
  refine bodyPost_ret (v := .tuple #[.agg #[.int .i64 1, .int .u16 a, .int .u16 b, .int .u16 c, .int .u16 d], .bool true]) (by simp [results, Try.results31, go_sem]) rfl ⟨rfl, ?_⟩
  exact laterAlloc (laterAlloc (Below.refl _ _) _) _

set_option maxHeartbeats 2000000 in
theorem dataOf_2 (a b c d : Int) (w : World) (ha0 : 0 ≤ a) (ha1 : a ≤ 255) (hb0 : 0 ≤ b) (hb1 : b ≤ 255) (hc0 : 0 ≤ c) (hc1 : c ≤ 255) (hd0 : 0 ≤ d) (hd1 : d ≤ 255) :
    Calls Try.prog 31 #[.iface 67 (.agg #[.int .u8 a, .int .u8 b, .int .u8 c, .int .u8 d])] w fun e w' => e = .returned (.tuple #[.agg #[.int .i64 2, .int .u16 a, .int .u16 b, .int .u16 c, .int .u16 d], .bool true]) ∧ Below w.heap.size w w' := by
  have n0 := asNo_0 67 (.agg #[.int .u8 a, .int .u8 b, .int .u8 c, .int .u8 d]) (by decide)
  have n1 := asNo_1 67 (.agg #[.int .u8 a, .int .u8 b, .int .u8 c, .int .u8 d]) (by decide)
  have y := asYes_2 (.agg #[.int .u8 a, .int .u8 b, .int .u8 c, .int .u8 d])
  go_enter Try.func31, Try.ntmps31
  go_wp2_with fail
  refine (eight4 2 a b c d _ _ (by omega) (by omega) (by omega) (by omega) (by omega) (by omega) (by omega) (by omega) (by simp [go_sem]) (by simp [go_sem]) (by simp [go_sem]) (by simp [go_sem])).mono ?_
  rintro e w1 ⟨rfl, b1⟩
  have z : w.heap.size < w1.heap.size := by have := b1.size; simp at this; omega
  have r0 : w1.cell? ⟨w.heap.size, 0, none⟩ = some (.int .i64 0) := cell_later b1 (by simp [go_sem])
  have r1 : w1.cell? ⟨w.heap.size, 1, none⟩ = some (.int .u16 0) := cell_later b1 (by simp [go_sem])
  have r2 : w1.cell? ⟨w.heap.size, 2, none⟩ = some (.int .u16 0) := cell_later b1 (by simp [go_sem])
  have r3 : w1.cell? ⟨w.heap.size, 3, none⟩ = some (.int .u16 0) := cell_later b1 (by simp [go_sem])
  have r4 : w1.cell? ⟨w.heap.size, 4, none⟩ = some (.int .u16 0) := cell_later b1 (by simp [go_sem])
  have q : ∀ j, w1.frozen? ⟨w.heap.size, j, none⟩ = false := fun j => (b1.frozen (p := ⟨w.heap.size, j, none⟩) (by simp; omega)).trans (by simp [go_sem])
  have B : Below w.heap.size w w1 := later b1 (laterAlloc (laterAlloc (laterAlloc (Below.refl _ _) _) _) _)
  clear b1
  go_wp2_with fail
  refine bodyPost_ret (v := .tuple #[.agg #[.int .i64 2, .int .u16 a, .int .u16 b, .int .u16 c, .int .u16 d], .bool true]) (by simp [results, Try.results31, go_sem, r0, r1, r2, r3, r4]) rfl ⟨rfl, ?_⟩
  exact ((((B.setCell (Nat.le_refl _) _).setCell (Nat.le_refl _) _).setCell (Nat.le_refl _) _).setCell (Nat.le_refl _) _).setCell (Nat.le_refl _) _

set_option maxHeartbeats 2000000 in
theorem dataOf_3 (a b c d : Int) (w : World) (ha0 : 0 ≤ a) (ha1 : a ≤ 65535) (hb0 : 0 ≤ b) (hb1 : b ≤ 65535) (hc0 : 0 ≤ c) (hc1 : c ≤ 65535) (hd0 : 0 ≤ d) (hd1 : d ≤ 65535) :
    Calls Try.prog 31 #[.iface 68 (.agg #[.int .u16 a, .int .u16 b, .int .u16 c, .int .u16 d])] w fun e w' => e = .returned (.tuple #[.agg #[.int .i64 3, .int .u16 a, .int .u16 b, .int .u16 c, .int .u16 d], .bool true]) ∧ Below w.heap.size w w' := by
  have n0 := asNo_0 68 (.agg #[.int .u16 a, .int .u16 b, .int .u16 c, .int .u16 d]) (by decide)
  have n1 := asNo_1 68 (.agg #[.int .u16 a, .int .u16 b, .int .u16 c, .int .u16 d]) (by decide)
  have n2 := asNo_2 68 (.agg #[.int .u16 a, .int .u16 b, .int .u16 c, .int .u16 d]) (by decide)
  have y := asYes_3 (.agg #[.int .u16 a, .int .u16 b, .int .u16 c, .int .u16 d])
  go_enter Try.func31, Try.ntmps31
  go_wp2_with fail
  refine bodyPost_ret (v := .tuple #[.agg #[.int .i64 3, .int .u16 a, .int .u16 b, .int .u16 c, .int .u16 d], .bool true]) (by simp [results, Try.results31, go_sem]) rfl ⟨rfl, ?_⟩
  exact laterAlloc (laterAlloc (Below.refl _ _) _) _

set_option maxHeartbeats 2000000 in
theorem dataOf_4 (a : Int) (w : World) (ha0 : 0 ≤ a) (ha1 : a ≤ 255) :
    Calls Try.prog 31 #[.iface 70 (.agg #[.int .u8 a])] w fun e w' => e = .returned (.tuple #[.agg #[.int .i64 4, .int .u16 a, .int .u16 0, .int .u16 0, .int .u16 0], .bool true]) ∧ Below w.heap.size w w' := by
  have n0 := asNo_0 70 (.agg #[.int .u8 a]) (by decide)
  have n1 := asNo_1 70 (.agg #[.int .u8 a]) (by decide)
  have n2 := asNo_2 70 (.agg #[.int .u8 a]) (by decide)
  have n3 := asNo_3 70 (.agg #[.int .u8 a]) (by decide)
  have y := asYes_4 (.agg #[.int .u8 a])
  go_enter Try.func31, Try.ntmps31
  go_wp2_with fail
  refine (eight1 4 a _ _ (by omega) (by omega) (by simp [go_sem])).mono ?_
  rintro e w1 ⟨rfl, b1⟩
  have z : w.heap.size < w1.heap.size := by have := b1.size; simp at this; omega
  have r0 : w1.cell? ⟨w.heap.size, 0, none⟩ = some (.int .i64 0) := cell_later b1 (by simp [go_sem])
  have r1 : w1.cell? ⟨w.heap.size, 1, none⟩ = some (.int .u16 0) := cell_later b1 (by simp [go_sem])
  have r2 : w1.cell? ⟨w.heap.size, 2, none⟩ = some (.int .u16 0) := cell_later b1 (by simp [go_sem])
  have r3 : w1.cell? ⟨w.heap.size, 3, none⟩ = some (.int .u16 0) := cell_later b1 (by simp [go_sem])
  have r4 : w1.cell? ⟨w.heap.size, 4, none⟩ = some (.int .u16 0) := cell_later b1 (by simp [go_sem])
  have q : ∀ j, w1.frozen? ⟨w.heap.size, j, none⟩ = false := fun j => (b1.frozen (p := ⟨w.heap.size, j, none⟩) (by simp; omega)).trans (by simp [go_sem])
  have B : Below w.heap.size w w1 := later b1 (laterAlloc (laterAlloc (laterAlloc (Below.refl _ _) _) _) _)
  clear b1
  go_wp2_with fail
  refine bodyPost_ret (v := .tuple #[.agg #[.int .i64 4, .int .u16 a, .int .u16 0, .int .u16 0, .int .u16 0], .bool true]) (by simp [results, Try.results31, go_sem, r0, r1, r2, r3, r4]) rfl ⟨rfl, ?_⟩
  exact ((((B.setCell (Nat.le_refl _) _).setCell (Nat.le_refl _) _).setCell (Nat.le_refl _) _).setCell (Nat.le_refl _) _).setCell (Nat.le_refl _) _

set_option maxHeartbeats 2000000 in
theorem dataOf_5 (a : Int) (w : World) (ha0 : 0 ≤ a) (ha1 : a ≤ 65535) :
    Calls Try.prog 31 #[.iface 72 (.agg #[.int .u16 a])] w fun e w' => e = .returned (.tuple #[.agg #[.int .i64 5, .int .u16 a, .int .u16 0, .int .u16 0, .int .u16 0], .bool true]) ∧ Below w.heap.size w w' := by
  have n0 := asNo_0 72 (.agg #[.int .u16 a]) (by decide)
  have n1 := asNo_1 72 (.agg #[.int .u16 a]) (by decide)
  have n2 := asNo_2 72 (.agg #[.int .u16 a]) (by decide)
  have n3 := asNo_3 72 (.agg #[.int .u16 a]) (by decide)
  have n4 := asNo_4 72 (.agg #[.int .u16 a]) (by decide)
  have y := asYes_5 (.agg #[.int .u16 a])
  go_enter Try.func31, Try.ntmps31
  go_wp2_with fail
  refine bodyPost_ret (v := .tuple #[.agg #[.int .i64 5, .int .u16 a, .int .u16 0, .int .u16 0, .int .u16 0], .bool true]) (by simp [results, Try.results31, go_sem]) rfl ⟨rfl, ?_⟩
  exact laterAlloc (laterAlloc (Below.refl _ _) _) _

set_option maxHeartbeats 2000000 in
theorem dataOf_6 (a : Int) (w : World) (ha0 : 0 ≤ a) (ha1 : a ≤ 255) :
    Calls Try.prog 31 #[.iface 74 (.agg #[.int .u8 a])] w fun e w' => e = .returned (.tuple #[.agg #[.int .i64 6, .int .u16 a, .int .u16 0, .int .u16 0, .int .u16 0], .bool true]) ∧ Below w.heap.size w w' := by
  have n0 := asNo_0 74 (.agg #[.int .u8 a]) (by decide)
  have n1 := asNo_1 74 (.agg #[.int .u8 a]) (by decide)
  have n2 := asNo_2 74 (.agg #[.int .u8 a]) (by decide)
  have n3 := asNo_3 74 (.agg #[.int .u8 a]) (by decide)
  have n4 := asNo_4 74 (.agg #[.int .u8 a]) (by decide)
  have n5 := asNo_5 74 (.agg #[.int .u8 a]) (by decide)
  have y := asYes_6 (.agg #[.int .u8 a])
  go_enter Try.func31, Try.ntmps31
  go_wp2_with fail
  refine (eight1 6 a _ _ (by omega) (by omega) (by simp [go_sem])).mono ?_
  rintro e w1 ⟨rfl, b1⟩
  have z : w.heap.size < w1.heap.size := by have := b1.size; simp at this; omega
  have r0 : w1.cell? ⟨w.heap.size, 0, none⟩ = some (.int .i64 0) := cell_later b1 (by simp [go_sem])
  have r1 : w1.cell? ⟨w.heap.size, 1, none⟩ = some (.int .u16 0) := cell_later b1 (by simp [go_sem])
  have r2 : w1.cell? ⟨w.heap.size, 2, none⟩ = some (.int .u16 0) := cell_later b1 (by simp [go_sem])
  have r3 : w1.cell? ⟨w.heap.size, 3, none⟩ = some (.int .u16 0) := cell_later b1 (by simp [go_sem])
  have r4 : w1.cell? ⟨w.heap.size, 4, none⟩ = some (.int .u16 0) := cell_later b1 (by simp [go_sem])
  have q : ∀ j, w1.frozen? ⟨w.heap.size, j, none⟩ = false := fun j => (b1.frozen (p := ⟨w.heap.size, j, none⟩) (by simp; omega)).trans (by simp [go_sem])
  have B : Below w.heap.size w w1 := later b1 (laterAlloc (laterAlloc (laterAlloc (Below.refl _ _) _) _) _)
  clear b1
  go_wp2_with fail
  refine bodyPost_ret (v := .tuple #[.agg #[.int .i64 6, .int .u16 a, .int .u16 0, .int .u16 0, .int .u16 0], .bool true]) (by simp [results, Try.results31, go_sem, r0, r1, r2, r3, r4]) rfl ⟨rfl, ?_⟩
  exact ((((B.setCell (Nat.le_refl _) _).setCell (Nat.le_refl _) _).setCell (Nat.le_refl _) _).setCell (Nat.le_refl _) _).setCell (Nat.le_refl _) _

set_option maxHeartbeats 2000000 in
theorem dataOf_7 (a : Int) (w : World) (ha0 : 0 ≤ a) (ha1 : a ≤ 65535) :
    Calls Try.prog 31 #[.iface 76 (.agg #[.int .u16 a])] w fun e w' => e = .returned (.tuple #[.agg #[.int .i64 7, .int .u16 a, .int .u16 0, .int .u16 0, .int .u16 0], .bool true]) ∧ Below w.heap.size w w' := by
  have n0 := asNo_0 76 (.agg #[.int .u16 a]) (by decide)
  have n1 := asNo_1 76 (.agg #[.int .u16 a]) (by decide)
  have n2 := asNo_2 76 (.agg #[.int .u16 a]) (by decide)
  have n3 := asNo_3 76 (.agg #[.int .u16 a]) (by decide)
  have n4 := asNo_4 76 (.agg #[.int .u16 a]) (by decide)
  have n5 := asNo_5 76 (.agg #[.int .u16 a]) (by decide)
  have n6 := asNo_6 76 (.agg #[.int .u16 a]) (by decide)
  have y := asYes_7 (.agg #[.int .u16 a])
  go_enter Try.func31, Try.ntmps31
  go_wp2_with fail
  refine bodyPost_ret (v := .tuple #[.agg #[.int .i64 7, .int .u16 a, .int .u16 0, .int .u16 0, .int .u16 0], .bool true]) (by simp [results, Try.results31, go_sem]) rfl ⟨rfl, ?_⟩
  exact laterAlloc (laterAlloc (Below.refl _ _) _) _

set_option maxHeartbeats 2000000 in
theorem dataOf_8 (a b c d : Int) (w : World) (ha0 : 0 ≤ a) (ha1 : a ≤ 255) (hb0 : 0 ≤ b) (hb1 : b ≤ 255) (hc0 : 0 ≤ c) (hc1 : c ≤ 255) (hd0 : 0 ≤ d) (hd1 : d ≤ 255) :
    Calls Try.prog 31 #[.iface 78 (.agg #[.int .u8 a, .int .u8 b, .int .u8 c, .int .u8 d])] w fun e w' => e = .returned (.tuple #[.agg #[.int .i64 8, .int .u16 a, .int .u16 b, .int .u16 c, .int .u16 d], .bool true]) ∧ Below w.heap.size w w' := by
  have n0 := asNo_0 78 (.agg #[.int .u8 a, .int .u8 b, .int .u8 c, .int .u8 d]) (by decide)
  have n1 := asNo_1 78 (.agg #[.int .u8 a, .int .u8 b, .int .u8 c, .int .u8 d]) (by decide)
  have n2 := asNo_2 78 (.agg #[.int .u8 a, .int .u8 b, .int .u8 c, .int .u8 d]) (by decide)
  have n3 := asNo_3 78 (.agg #[.int .u8 a, .int .u8 b, .int .u8 c, .int .u8 d]) (by decide)
  have n4 := asNo_4 78 (.agg #[.int .u8 a, .int .u8 b, .int .u8 c, .int .u8 d]) (by decide)
  have n5 := asNo_5 78 (.agg #[.int .u8 a, .int .u8 b, .int .u8 c, .int .u8 d]) (by decide)
  have n6 := asNo_6 78 (.agg #[.int .u8 a, .int .u8 b, .int .u8 c, .int .u8 d]) (by decide)
  have n7 := asNo_7 78 (.agg #[.int .u8 a, .int .u8 b, .int .u8 c, .int .u8 d]) (by decide)
  have y := asYes_8 (.agg #[.int .u8 a, .int .u8 b, .int .u8 c, .int .u8 d])
  go_enter Try.func31, Try.ntmps31
  go_wp2_with fail
  refine (eight4 8 a b c d _ _ (by omega) (by omega) (by omega) (by omega) (by omega) (by omega) (by omega) (by omega) (by simp [go_sem]) (by simp [go_sem]) (by simp [go_sem]) (by simp [go_sem])).mono ?_
  rintro e w1 ⟨rfl, b1⟩
  have z : w.heap.size < w1.heap.size := by have := b1.size; simp at this; omega
  have r0 : w1.cell? ⟨w.heap.size, 0, none⟩ = some (.int .i64 0) := cell_later b1 (by simp [go_sem])
  have r1 : w1.cell? ⟨w.heap.size, 1, none⟩ = some (.int .u16 0) := cell_later b1 (by simp [go_sem])
  have r2 : w1.cell? ⟨w.heap.size, 2, none⟩ = some (.int .u16 0) := cell_later b1 (by simp [go_sem])
  have r3 : w1.cell? ⟨w.heap.size, 3, none⟩ = some (.int .u16 0) := cell_later b1 (by simp [go_sem])
  have r4 : w1.cell? ⟨w.heap.size, 4, none⟩ = some (.int .u16 0) := cell_later b1 (by simp [go_sem])
  have q : ∀ j, w1.frozen? ⟨w.heap.size, j, none⟩ = false := fun j => (b1.frozen (p := ⟨w.heap.size, j, none⟩) (by simp; omega)).trans (by simp [go_sem])
  have B : Below w.heap.size w w1 := later b1 (laterAlloc (laterAlloc (laterAlloc (Below.refl _ _) _) _) _)
  clear b1
  go_wp2_with fail
  refine bodyPost_ret (v := .tuple #[.agg #[.int .i64 8, .int .u16 a, .int .u16 b, .int .u16 c, .int .u16 d], .bool true]) (by simp [results, Try.results31, go_sem, r0, r1, r2, r3, r4]) rfl ⟨rfl, ?_⟩
  exact ((((B.setCell (Nat.le_refl _) _).setCell (Nat.le_refl _) _).setCell (Nat.le_refl _) _).setCell (Nat.le_refl _) _).setCell (Nat.le_refl _) _

set_option maxHeartbeats 2000000 in
theorem dataOf_9 (a b c : Int) (w : World) (ha0 : 0 ≤ a) (ha1 : a ≤ 255) (hb0 : 0 ≤ b) (hb1 : b ≤ 255) (hc0 : 0 ≤ c) (hc1 : c ≤ 255) :
    Calls Try.prog 31 #[.iface 80 (.agg #[.int .u8 a, .int .u8 b, .int .u8 c])] w fun e w' => e = .returned (.tuple #[.agg #[.int .i64 9, .int .u16 a, .int .u16 b, .int .u16 c, .int .u16 0], .bool true]) ∧ Below w.heap.size w w' := by
  have n0 := asNo_0 80 (.agg #[.int .u8 a, .int .u8 b, .int .u8 c]) (by decide)
  have n1 := asNo_1 80 (.agg #[.int .u8 a, .int .u8 b, .int .u8 c]) (by decide)
  have n2 := asNo_2 80 (.agg #[.int .u8 a, .int .u8 b, .int .u8 c]) (by decide)
  have n3 := asNo_3 80 (.agg #[.int .u8 a, .int .u8 b, .int .u8 c]) (by decide)
  have n4 := asNo_4 80 (.agg #[.int .u8 a, .int .u8 b, .int .u8 c]) (by decide)
  have n5 := asNo_5 80 (.agg #[.int .u8 a, .int .u8 b, .int .u8 c]) (by decide)
  have n6 := asNo_6 80 (.agg #[.int .u8 a, .int .u8 b, .int .u8 c]) (by decide)
  have n7 := asNo_7 80 (.agg #[.int .u8 a, .int .u8 b, .int .u8 c]) (by decide)
  have n8 := asNo_8 80 (.agg #[.int .u8 a, .int .u8 b, .int .u8 c]) (by decide)
  have y := asYes_9 (.agg #[.int .u8 a, .int .u8 b, .int .u8 c])
  go_enter Try.func31, Try.ntmps31
  go_wp2_with fail
  refine (eight3 9 a b c _ _ (by omega) (by omega) (by omega) (by omega) (by omega) (by omega) (by simp [go_sem]) (by simp [go_sem]) (by simp [go_sem])).mono ?_
  rintro e w1 ⟨rfl, b1⟩
  have z : w.heap.size < w1.heap.size := by have := b1.size; simp at this; omega
  have r0 : w1.cell? ⟨w.heap.size, 0, none⟩ = some (.int .i64 0) := cell_later b1 (by simp [go_sem])
  have r1 : w1.cell? ⟨w.heap.size, 1, none⟩ = some (.int .u16 0) := cell_later b1 (by simp [go_sem])
  have r2 : w1.cell? ⟨w.heap.size, 2, none⟩ = some (.int .u16 0) := cell_later b1 (by simp [go_sem])
  have r3 : w1.cell? ⟨w.heap.size, 3, none⟩ = some (.int .u16 0) := cell_later b1 (by simp [go_sem])
  have r4 : w1.cell? ⟨w.heap.size, 4, none⟩ = some (.int .u16 0) := cell_later b1 (by simp [go_sem])
  have q : ∀ j, w1.frozen? ⟨w.heap.size, j, none⟩ = false := fun j => (b1.frozen (p := ⟨w.heap.size, j, none⟩) (by simp; omega)).trans (by simp [go_sem])
  have B : Below w.heap.size w w1 := later b1 (laterAlloc (laterAlloc (laterAlloc (Below.refl _ _) _) _) _)
  clear b1
  go_wp2_with fail
  refine bodyPost_ret (v := .tuple #[.agg #[.int .i64 9, .int .u16 a, .int .u16 b, .int .u16 c, .int .u16 0], .bool true]) (by simp [results, Try.results31, go_sem, r0, r1, r2, r3, r4]) rfl ⟨rfl, ?_⟩
  exact ((((B.setCell (Nat.le_refl _) _).setCell (Nat.le_refl _) _).setCell (Nat.le_refl _) _).setCell (Nat.le_refl _) _).setCell (Nat.le_refl _) _

set_option maxHeartbeats 2000000 in
theorem dataOf_10 (a b c d : Int) (w : World) (ha0 : 0 ≤ a) (ha1 : a ≤ 255) (hb0 : 0 ≤ b) (hb1 : b ≤ 255) (hc0 : 0 ≤ c) (hc1 : c ≤ 255) (hd0 : 0 ≤ d) (hd1 : d ≤ 255) :
    Calls Try.prog 31 #[.iface 82 (.agg #[.int .u8 a, .int .u8 b, .int .u8 c, .int .u8 d])] w fun e w' => e = .returned (.tuple #[.agg #[.int .i64 10, .int .u16 a, .int .u16 b, .int .u16 c, .int .u16 d], .bool true]) ∧ Below w.heap.size w w' := by
  have n0 := asNo_0 82 (.agg #[.int .u8 a, .int .u8 b, .int .u8 c, .int .u8 d]) (by decide)
  have n1 := asNo_1 82 (.agg #[.int .u8 a, .int .u8 b, .int .u8 c, .int .u8 d]) (by decide)
  have n2 := asNo_2 82 (.agg #[.int .u8 a, .int .u8 b, .int .u8 c, .int .u8 d]) (by decide)
  have n3 := asNo_3 82 (.agg #[.int .u8 a, .int .u8 b, .int .u8 c, .int .u8 d]) (by decide)
  have n4 := asNo_4 82 (.agg #[.int .u8 a, .int .u8 b, .int .u8 c, .int .u8 d]) (by decide)
  have n5 := asNo_5 82 (.agg #[.int .u8 a, .int .u8 b, .int .u8 c, .int .u8 d]) (by decide)
  have n6 := asNo_6 82 (.agg #[.int .u8 a, .int .u8 b, .int .u8 c, .int .u8 d]) (by decide)
  have n7 := asNo_7 82 (.agg #[.int .u8 a, .int .u8 b, .int .u8 c, .int .u8 d]) (by decide)
  have n8 := asNo_8 82 (.agg #[.int .u8 a, .int .u8 b, .int .u8 c, .int .u8 d]) (by decide)
  have n9 := asNo_9 82 (.agg #[.int .u8 a, .int .u8 b, .int .u8 c, .int .u8 d]) (by decide)
  have y := asYes_10 (.agg #[.int .u8 a, .int .u8 b, .int .u8 c, .int .u8 d])
  go_enter Try.func31, Try.ntmps31
  go_wp2_with fail
  refine (eight4 10 a b c d _ _ (by omega) (by omega) (by omega) (by omega) (by omega) (by omega) (by omega) (by omega) (by simp [go_sem]) (by simp [go_sem]) (by simp [go_sem]) (by simp [go_sem])).mono ?_
  rintro e w1 ⟨rfl, b1⟩
  have z : w.heap.size < w1.heap.size := by have := b1.size; simp at this; omega
  have r0 : w1.cell? ⟨w.heap.size, 0, none⟩ = some (.int .i64 0) := cell_later b1 (by simp [go_sem])
  have r1 : w1.cell? ⟨w.heap.size, 1, none⟩ = some (.int .u16 0) := cell_later b1 (by simp [go_sem])
  have r2 : w1.cell? ⟨w.heap.size, 2, none⟩ = some (.int .u16 0) := cell_later b1 (by simp [go_sem])
  have r3 : w1.cell? ⟨w.heap.size, 3, none⟩ = some (.int .u16 0) := cell_later b1 (by simp [go_sem])
  have r4 : w1.cell? ⟨w.heap.size, 4, none⟩ = some (.int .u16 0) := cell_later b1 (by simp [go_sem])
  have q : ∀ j, w1.frozen? ⟨w.heap.size, j, none⟩ = false := fun j => (b1.frozen (p := ⟨w.heap.size, j, none⟩) (by simp; omega)).trans (by simp [go_sem])
  have B : Below w.heap.size w w1 := later b1 (laterAlloc (laterAlloc (laterAlloc (Below.refl _ _) _) _) _)
  clear b1
  go_wp2_with fail
  refine bodyPost_ret (v := .tuple #[.agg #[.int .i64 10, .int .u16 a, .int .u16 b, .int .u16 c, .int .u16 d], .bool true]) (by simp [results, Try.results31, go_sem, r0, r1, r2, r3, r4]) rfl ⟨rfl, ?_⟩
  exact ((((B.setCell (Nat.le_refl _) _).setCell (Nat.le_refl _) _).setCell (Nat.le_refl _) _).setCell (Nat.le_refl _) _).setCell (Nat.le_refl _) _

theorem dataOf_any (k a b c d : Int) (w : World) (h : proper k a b c d) :
    Calls Try.prog 31 #[.iface (tyOf k) (pay k a b c d)] w fun e w' => e = .returned (.tuple #[.agg #[.int .i64 k, .int .u16 a, .int .u16 b, .int .u16 c, .int .u16 d], .bool true]) ∧ Below w.heap.size w w' := by
  have hk := proper_kind h
  unfold proper at h
  rcases hk with rfl | rfl | rfl | rfl | rfl | rfl | rfl | rfl | rfl | rfl | rfl
  · exact dataOf_0 a b c d w (by omega) (by omega) (by omega) (by omega) (by omega) (by omega) (by omega) (by omega)
  · exact dataOf_1 a b c d w (by omega) (by omega) (by omega) (by omega) (by omega) (by omega) (by omega) (by omega)
  · exact dataOf_2 a b c d w (by omega) (by omega) (by omega) (by omega) (by omega) (by omega) (by omega) (by omega)
  · exact dataOf_3 a b c d w (by omega) (by omega) (by omega) (by omega) (by omega) (by omega) (by omega) (by omega)
  · obtain ⟨rfl, rfl, rfl⟩ : b = 0 ∧ c = 0 ∧ d = 0 := by omega
    exact dataOf_4 a w (by omega) (by omega)
  · obtain ⟨rfl, rfl, rfl⟩ : b = 0 ∧ c = 0 ∧ d = 0 := by omega
    exact dataOf_5 a w (by omega) (by omega)
  · obtain ⟨rfl, rfl, rfl⟩ : b = 0 ∧ c = 0 ∧ d = 0 := by omega
    exact dataOf_6 a w (by omega) (by omega)
  · obtain ⟨rfl, rfl, rfl⟩ : b = 0 ∧ c = 0 ∧ d = 0 := by omega
    exact dataOf_7 a w (by omega) (by omega)
  · exact dataOf_8 a b c d w (by omega) (by omega) (by omega) (by omega) (by omega) (by omega) (by omega) (by omega)
  · obtain ⟨rfl⟩ : d = 0 := by omega
    exact dataOf_9 a b c w (by omega) (by omega) (by omega) (by omega) (by omega) (by omega)
  · exact dataOf_10 a b c d w (by omega) (by omega) (by omega) (by omega) (by omega) (by omega) (by omega) (by omega)
end Go.Proofs.Ytmfjacbpcgcdjaa
