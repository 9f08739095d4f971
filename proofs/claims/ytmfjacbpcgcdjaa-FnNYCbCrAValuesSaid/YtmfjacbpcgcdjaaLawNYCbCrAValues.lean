/- The values of a Y'CbCr color with alpha are those of the color without, scaled by alpha: FnNYCbCrAValues returns true for every four bytes. No conditions. -/
import Derived.Test.YtmfjacbpcgcdjaaOpen
import Derived.Test.YtmfjacbpcgcdjaaConv
import Derived.Test.YtmfjacbpcgcdjaaValid
import Derived.Test.YtmfjacbpcgcdjaaHelp
import Derived.Test.YtmfjacbpcgcdjaaPlainLaws
import Derived.IntWalk
import Derived.Deep.DeepCutAuto
import Derived.Test.YtmfjacbpcgcdjaaPlainLaws2
import Derived.Test.YtmfjacbpcgcdjaaKeep
import Derived.Deep.RegionHeld3
import Derived.Lib.MinMax
import Derived.WalkLawsBesides
namespace Go.Proofs.Ytmfjacbpcgcdjaa
open Go.ChangeShapes Go.WideShapes Go.ChangeAt Go.RowKit Plain
set_option linter.unusedVariables false

set_option maxRecDepth 100000 in
set_option maxHeartbeats 4000000 in
theorem FnNYCbCrAValues_walk (a0 : Int) (a1 : Int) (a2 : Int) (a3 : Int) (h0 : 0 ≤ a0) (g0 : a0 ≤ 255) (h1 : 0 ≤ a1) (g1 : a1 ≤ 255) (h2 : 0 ≤ a2) (g2 : a2 ≤ 255) (h3 : 0 ≤ a3) (g3 : a3 ≤ 255) (w : World) :
    Calls Try.prog 5 #[.int .u8 a0, .int .u8 a1, .int .u8 a2, .int .u8 a3] w fun e w' => e = .returned (.bool true) ∧ Below w.heap.size w w' := by
  have hv : valid 10 a0 a1 a2 a3 := by unfold valid proper; omega
  have hv9 : valid 9 a0 a1 a2 0 := by unfold valid proper; omega
  have V1 := Lib.hid (fun w => implValues 10 a0 a1 a2 a3 w hv)
  have V2 := Lib.hid (fun w => implValues 9 a0 a1 a2 0 w hv9)
  rw [show vR 10 a0 a1 a2 a3 = cl16 (a0 * 65793 + 91881 * (a2 - 128)) * (a3 * 257) % 4294967296 / 65535 from rfl, show vG 10 a0 a1 a2 a3 = cl16 (a0 * 65793 - 22554 * (a1 - 128) - 46802 * (a2 - 128)) * (a3 * 257) % 4294967296 / 65535 from rfl, show vB 10 a0 a1 a2 a3 = cl16 (a0 * 65793 + 116130 * (a1 - 128)) * (a3 * 257) % 4294967296 / 65535 from rfl, show vA 10 a0 a1 a2 a3 = a3 * 257 from rfl] at V1
  rw [show vR 9 a0 a1 a2 0 = cl16 (a0 * 65793 + 91881 * (a2 - 128)) from rfl, show vG 9 a0 a1 a2 0 = cl16 (a0 * 65793 - 22554 * (a1 - 128) - 46802 * (a2 - 128)) from rfl, show vB 9 a0 a1 a2 0 = cl16 (a0 * 65793 + 116130 * (a1 - 128)) from rfl, show vA 9 a0 a1 a2 0 = 65535 from rfl] at V2
  have s0 := nycc_scaled (cl16_range (a0 * 65793 + 91881 * (a2 - 128))).1 (cl16_range (a0 * 65793 + 91881 * (a2 - 128))).2 h3 g3
  have r0 := cl16_range (a0 * 65793 + 91881 * (a2 - 128))
  obtain ⟨x0, hx0⟩ : ∃ x, x = cl16 (a0 * 65793 + 91881 * (a2 - 128)) := ⟨_, rfl⟩
  rw [← hx0] at V1 V2 s0 r0
  clear hx0
  obtain ⟨z0, hz0⟩ : ∃ z, z = x0 * (a3 * 257) % 4294967296 / 65535 := ⟨_, rfl⟩
  rw [← hz0] at V1 s0
  clear hz0
  have s1 := nycc_scaled (cl16_range (a0 * 65793 - 22554 * (a1 - 128) - 46802 * (a2 - 128))).1 (cl16_range (a0 * 65793 - 22554 * (a1 - 128) - 46802 * (a2 - 128))).2 h3 g3
  have r1 := cl16_range (a0 * 65793 - 22554 * (a1 - 128) - 46802 * (a2 - 128))
  obtain ⟨x1, hx1⟩ : ∃ x, x = cl16 (a0 * 65793 - 22554 * (a1 - 128) - 46802 * (a2 - 128)) := ⟨_, rfl⟩
  rw [← hx1] at V1 V2 s1 r1
  clear hx1
  obtain ⟨z1, hz1⟩ : ∃ z, z = x1 * (a3 * 257) % 4294967296 / 65535 := ⟨_, rfl⟩
  rw [← hz1] at V1 s1
  clear hz1
  have s2 := nycc_scaled (cl16_range (a0 * 65793 + 116130 * (a1 - 128))).1 (cl16_range (a0 * 65793 + 116130 * (a1 - 128))).2 h3 g3
  have r2 := cl16_range (a0 * 65793 + 116130 * (a1 - 128))
  obtain ⟨x2, hx2⟩ : ∃ x, x = cl16 (a0 * 65793 + 116130 * (a1 - 128)) := ⟨_, rfl⟩
  rw [← hx2] at V1 V2 s2 r2
  clear hx2
  obtain ⟨z2, hz2⟩ : ∃ z, z = x2 * (a3 * 257) % 4294967296 / 65535 := ⟨_, rfl⟩
  rw [← hz2] at V1 s2
  clear hz2
  have ix0uint32 : ∀ (x0 x1 x2 x3 : Value) (w : World), (Instr.index 30 (.agg #[x0, x1, x2, x3]) (.int .i64 0)).run Try.prog w = .ok x0 w := fun _ _ _ _ _ => by kernel_rfl
  have ix1uint32 : ∀ (x0 x1 x2 x3 : Value) (w : World), (Instr.index 30 (.agg #[x0, x1, x2, x3]) (.int .i64 1)).run Try.prog w = .ok x1 w := fun _ _ _ _ _ => by kernel_rfl
  have ix2uint32 : ∀ (x0 x1 x2 x3 : Value) (w : World), (Instr.index 30 (.agg #[x0, x1, x2, x3]) (.int .i64 2)).run Try.prog w = .ok x2 w := fun _ _ _ _ _ => by kernel_rfl
  have ix3uint32 : ∀ (x0 x1 x2 x3 : Value) (w : World), (Instr.index 30 (.agg #[x0, x1, x2, x3]) (.int .i64 3)).run Try.prog w = .ok x3 w := fun _ _ _ _ _ => by kernel_rfl
  clear hv hv9
  go_enter Try.func5, Try.ntmps5
  go_wp2_with fail
  refine (V1.out _).mono ?_
  rintro e w1 ⟨rfl, b1⟩
  have e0 : w1.cell? ⟨w.heap.size, 0, none⟩ = some (.int .i64 10) := cell_later b1 (by simp [go_sem])
  have e1 : w1.cell? ⟨w.heap.size, 1, none⟩ = some (.int .u16 a0) := cell_later b1 (by simp [go_sem])
  have e2 : w1.cell? ⟨w.heap.size, 2, none⟩ = some (.int .u16 a1) := cell_later b1 (by simp [go_sem])
  have e3 : w1.cell? ⟨w.heap.size, 3, none⟩ = some (.int .u16 a2) := cell_later b1 (by simp [go_sem])
  have e4 : w1.cell? ⟨w.heap.size, 4, none⟩ = some (.int .u16 a3) := cell_later b1 (by simp [go_sem])
  have q : ∀ j, w1.frozen? ⟨w.heap.size, j, none⟩ = false := fun j => (b1.frozen (p := ⟨w.heap.size, j, none⟩) (by simp)).trans (by simp [go_sem])
  have hz : w.heap.size < w1.heap.size := by have := b1.size; simp at this; omega
  have B1 : Below w.heap.size w w1 := later b1 (laterAlloc (Below.refl _ _) _)
  clear b1
  go_wp2_with fail
  refine (V2.out _).mono ?_
  rintro e w2 ⟨rfl, b2⟩
  have q0 : w2.cell? ⟨w1.heap.size, 0, none⟩ = some (.int .u32 z0) := cell_later b2 (by simp [go_sem])
  have q1 : w2.cell? ⟨w1.heap.size, 1, none⟩ = some (.int .u32 z1) := cell_later b2 (by simp [go_sem])
  have q2 : w2.cell? ⟨w1.heap.size, 2, none⟩ = some (.int .u32 z2) := cell_later b2 (by simp [go_sem])
  have q3 : w2.cell? ⟨w1.heap.size, 3, none⟩ = some (.int .u32 (a3 * 257)) := cell_later b2 (by simp [go_sem])
  have B2 : Below w.heap.size w w2 := by
    refine B1.trans (Below.trans ?_ (b2.mono (by simp; omega)))
    repeat (first | exact Below.refl _ _ | refine Below.alloc ?_ (by simp; omega) _ | refine Below.setCell ?_ (by simp) _)
  clear b2
  go_wp2_with fail
  refine wp_loop_rounds 5 ?_
  rw [rounds_succ]
  go_wp2_with fail
  rw [rounds_succ]
  go_wp2_with fail
  rw [rounds_succ]
  go_wp2_with fail
  rw [rounds_succ]
  go_wp2_with fail
  rw [rounds_succ]
  go_wp2_with fail
  go_ret
  exact ⟨by simp, B2⟩
/-! ### The row's step, for FnNYCbCrAValues. -/
namespace FnNYCbCrAValuesFrame
open Go.ChangeShapes Go.WideShapes Go.ChangeAt Go.RowKit
theorem own : ownKnob Try.prog.godebug = none := by kernel_rfl
theorem laidOut : laidOutB Try.prog = true := by kernel_rfl
set_option maxRecDepth 100000 in
theorem lifted (os : Os) (started : os.Started) (H : Type) (enc : TypeId × Value → H) :
    ReturnsInHanded {} Try.checked os 5 .any (Rows.fnNYCbCrAValuesSpec.pre6 enc Try.prog Try.f5 Rows.fnNYCbCrAValuesRow.domain false) (Rows.fnNYCbCrAValuesSpec.post enc Try.prog Try.f5 false true false false) := by
  refine returnsInHanded_of_change (C := Try.checked) own started (by kernel_rfl) Try.func5
    (ChangeSpec.witness6 (enc := enc) (C := Try.checked) false ⟨#[], #[.int .u8 0, .int .u8 0, .int .u8 0, .int .u8 0], []⟩ 8 (by kernel_rfl) (by kernel_rfl) (by kernel_rfl) (by kernel_rfl)) ?_
  intro W base args ds gs before hval0 hW hcnd _
  have hval : ∀ (j : Nat) t v, Try.f5.params[j]? = some t → args[j]? = some v → Value.okWide Try.prog W .any base t v := hval0
  have hW' := hW
  obtain ⟨p, q, hA0, hV, rfl, hfz, hnd⟩ := hW
  have hA : DataW.TrodAll enc Try.prog W 0 (fun _ => true) true Try.f5.params.toList args.toList ds p := hA0
  rw [Try.params5] at hA hval
  obtain ⟨v0, vs0, d0, ds0, p0, q0, hargs, rfl, rfl, h0, r0⟩ := trodAll_cons hA
  obtain ⟨v1, vs1, d1, ds1, p1, q1, rfl, rfl, rfl, h1, r1⟩ := trodAll_cons r0
  obtain ⟨v2, vs2, d2, ds2, p2, q2, rfl, rfl, rfl, h2, r2⟩ := trodAll_cons r1
  obtain ⟨v3, vs3, d3, ds3, p3, q3, rfl, rfl, rfl, h3, r3⟩ := trodAll_cons r2
  obtain ⟨rfl, rfl, rfl⟩ := trodAll_nil r3
  obtain rfl : args = #[v0, v1, v2, v3] := by cases args; simp_all
  obtain ⟨rfl, rfl⟩ := trodVars_none hV
  obtain ⟨a0, rfl, rfl, rfl, w0⟩ := open_int Try.underlying5 (hval 0 5 v0 rfl rfl) h0
  have b0 := bounds_u8 w0
  obtain ⟨a1, rfl, rfl, rfl, w1⟩ := open_int Try.underlying5 (hval 1 5 v1 rfl rfl) h1
  have b1 := bounds_u8 w1
  obtain ⟨a2, rfl, rfl, rfl, w2⟩ := open_int Try.underlying5 (hval 2 5 v2 rfl rfl) h2
  have b2 := bounds_u8 w2
  obtain ⟨a3, rfl, rfl, rfl, w3⟩ := open_int Try.underlying5 (hval 3 5 v3 rfl rfl) h3
  have b3 := bounds_u8 w3
  clear hA0 hval0
  refine (FnNYCbCrAValues_walk a0 a1 a2 a3 b0.1 b0.2 b1.1 b1.2 b2.1 b2.2 b3.1 b3.2 W).mono fun e W' ⟨he, bel⟩ => ?_
  subst he
  exact ⟨_, rfl, _, _, _, [], _, [], hW', trodAll_mk1 (shut_bool Try.underlying4 _), (trodAll_cons_mk (shut_int Try.underlying5 w0) (trodAll_cons_mk (shut_int Try.underlying5 w1) (trodAll_cons_mk (shut_int Try.underlying5 w2) (trodAll_cons_mk (shut_int Try.underlying5 w3) trodAll_mk0)))), rfl, bel.frame _, fun h => by cases h⟩
theorem over : Rows.fnNYCbCrAValuesRow.holds Try.pinned (OpenSpec.ofChange Rows.fnNYCbCrAValuesSpec) :=
  OpenClaim.holds_of_wide 5 Try.f5 rfl rfl rfl rfl rfl rfl rfl ⟨rfl, rfl, rfl, rfl, rfl⟩ rfl rfl rfl rfl rfl (by kernel_rfl) Try.func5 (by kernel_rfl)
    (of_decide_eq_true (by kernel_rfl)) (by unfold Func.isWrapper; first | (rw [if_pos (by decide +kernel)]; kernel_rfl) | (rw [if_neg (by decide +kernel)]; exact ⟨rfl, rfl⟩))
    (fun os started H enc _ => lifted os started H enc)
end FnNYCbCrAValuesFrame
/-- THE STATEMENT. -/
theorem FnNYCbCrAValues_holds : Rows.FnNYCbCrAValuesSaid := FnNYCbCrAValuesFrame.over
#print axioms FnNYCbCrAValues_holds
end Go.Proofs.Ytmfjacbpcgcdjaa
