/- eight makes the data of a color of 8-bit components. -/
import Derived.Test.YtbehpaclnpildaaRows
import Derived.Test.YtbehpaclnpildaaBase
import Derived.WalkKit
import Derived.ProofKit
import Derived.OpenShut
import Derived.WalkLawsBesides
import Derived.LoopN
namespace Go.Proofs.Ytbehpaclnpildaa
open Go.ChangeShapes Go.WideShapes Go.ChangeAt Go.RowKit
set_option linter.unusedVariables false

set_option maxHeartbeats 1000000 in
theorem eight1 (k a : Int) (g : Nat) (w : World) (ha0 : 0 ≤ a) (ha1 : a ≤ 255) (e0 : w.cell? ⟨g, 0, none⟩ = some (.int .u8 a)) :
    Calls Try.prog 36 #[.int .i64 k, .slice (some ⟨g, 0, none⟩) 1 1] w fun e w' => e = .returned (.agg #[.int .i64 k, .int .u16 a, .int .u16 0, .int .u16 0, .int .u16 0]) ∧ Below w.heap.size w w' := by
  have hg : g < w.heap.size := World.block_lt_of_cell? _ _ e0
  have hg1 : w.heap.size ≠ g := by omega
  have hg2 : w.heap.size + 1 ≠ g := by omega
  go_enter Try.func36, Try.ntmps36
  go_wp2
  refine wp_loop_rounds 2 ?_
  rw [rounds_succ]
  go_wp2
  rw [rounds_succ]
  go_wp2
  refine bodyPost_ret (v := .agg #[.int .i64 k, .int .u16 a, .int .u16 0, .int .u16 0, .int .u16 0]) (by simp [results, Try.results36, go_sem]) rfl ⟨rfl, ?_⟩
  exact laterAlloc (laterAlloc (Below.refl _ _) _) _

set_option maxHeartbeats 1000000 in
theorem eight3 (k a b c : Int) (g : Nat) (w : World) (ha0 : 0 ≤ a) (ha1 : a ≤ 255) (hb0 : 0 ≤ b) (hb1 : b ≤ 255) (hc0 : 0 ≤ c) (hc1 : c ≤ 255) (e0 : w.cell? ⟨g, 0, none⟩ = some (.int .u8 a)) (e1 : w.cell? ⟨g, 1, none⟩ = some (.int .u8 b)) (e2 : w.cell? ⟨g, 2, none⟩ = some (.int .u8 c)) :
    Calls Try.prog 36 #[.int .i64 k, .slice (some ⟨g, 0, none⟩) 3 3] w fun e w' => e = .returned (.agg #[.int .i64 k, .int .u16 a, .int .u16 b, .int .u16 c, .int .u16 0]) ∧ Below w.heap.size w w' := by
  have hg : g < w.heap.size := World.block_lt_of_cell? _ _ e0
  have hg1 : w.heap.size ≠ g := by omega
  have hg2 : w.heap.size + 1 ≠ g := by omega
  go_enter Try.func36, Try.ntmps36
  go_wp2
  refine wp_loop_rounds 4 ?_
  rw [rounds_succ]
  go_wp2
  rw [rounds_succ]
  go_wp2
  rw [rounds_succ]
  go_wp2
  rw [rounds_succ]
  go_wp2
  refine bodyPost_ret (v := .agg #[.int .i64 k, .int .u16 a, .int .u16 b, .int .u16 c, .int .u16 0]) (by simp [results, Try.results36, go_sem]) rfl ⟨rfl, ?_⟩
  exact laterAlloc (laterAlloc (Below.refl _ _) _) _

set_option maxHeartbeats 1000000 in
theorem eight4 (k a b c d : Int) (g : Nat) (w : World) (ha0 : 0 ≤ a) (ha1 : a ≤ 255) (hb0 : 0 ≤ b) (hb1 : b ≤ 255) (hc0 : 0 ≤ c) (hc1 : c ≤ 255) (hd0 : 0 ≤ d) (hd1 : d ≤ 255) (e0 : w.cell? ⟨g, 0, none⟩ = some (.int .u8 a)) (e1 : w.cell? ⟨g, 1, none⟩ = some (.int .u8 b)) (e2 : w.cell? ⟨g, 2, none⟩ = some (.int .u8 c)) (e3 : w.cell? ⟨g, 3, none⟩ = some (.int .u8 d)) :
    Calls Try.prog 36 #[.int .i64 k, .slice (some ⟨g, 0, none⟩) 4 4] w fun e w' => e = .returned (.agg #[.int .i64 k, .int .u16 a, .int .u16 b, .int .u16 c, .int .u16 d]) ∧ Below w.heap.size w w' := by
  have hg : g < w.heap.size := World.block_lt_of_cell? _ _ e0
  have hg1 : w.heap.size ≠ g := by omega
  have hg2 : w.heap.size + 1 ≠ g := by omega
  go_enter Try.func36, Try.ntmps36
  go_wp2
  refine wp_loop_rounds 5 ?_
  rw [rounds_succ]
  go_wp2
  rw [rounds_succ]
  go_wp2
  rw [rounds_succ]
  go_wp2
  rw [rounds_succ]
  go_wp2
  rw [rounds_succ]
  go_wp2
  refine bodyPost_ret (v := .agg #[.int .i64 k, .int .u16 a, .int .u16 b, .int .u16 c, .int .u16 d]) (by simp [results, Try.results36, go_sem]) rfl ⟨rfl, ?_⟩
  exact laterAlloc (laterAlloc (Below.refl _ _) _) _
end Go.Proofs.Ytbehpaclnpildaa
