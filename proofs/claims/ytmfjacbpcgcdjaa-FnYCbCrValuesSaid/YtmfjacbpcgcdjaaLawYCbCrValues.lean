/- The upper 8 bits of the values of a Y'CbCr color are what the JFIF specification says, and it is opaque: FnYCbCrValues returns true for every three bytes. No conditions. -/
import Derived.Test.YtmfjacbpcgcdjaaOpen
import Derived.Test.YtmfjacbpcgcdjaaConv
import Derived.Test.YtmfjacbpcgcdjaaValid
import Derived.Test.YtmfjacbpcgcdjaaHelp
import Derived.Test.YtmfjacbpcgcdjaaPlainLaws
import Derived.Deep.RegionHeld3
import Derived.Lib.MinMax
import Derived.WalkLawsBesides
namespace Go.Proofs.Ytmfjacbpcgcdjaa
open Go.ChangeShapes Go.WideShapes Go.ChangeAt Go.RowKit Plain
set_option linter.unusedVariables false

set_option maxRecDepth 100000 in
set_option maxHeartbeats 4000000 in
theorem FnYCbCrValues_walk (a0 : Int) (a1 : Int) (a2 : Int) (h0 : 0 ≤ a0) (g0 : a0 ≤ 255) (h1 : 0 ≤ a1) (g1 : a1 ≤ 255) (h2 : 0 ≤ a2) (g2 : a2 ≤ 255) (w : World) :
    Calls Try.prog 6 #[.int .u8 a0, .int .u8 a1, .int .u8 a2] w fun e w' => e = .returned (.bool true) ∧ Below w.heap.size w w' := by
  have hv : valid 9 a0 a1 a2 0 := by unfold valid proper; omega
  have VV := Lib.hid (fun w => implValues 9 a0 a1 a2 0 w hv)
  rw [show vR 9 a0 a1 a2 0 = cl16 (a0 * 65793 + 91881 * (a2 - 128)) from rfl, show vG 9 a0 a1 a2 0 = cl16 (a0 * 65793 - 22554 * (a1 - 128) - 46802 * (a2 - 128)) from rfl, show vB 9 a0 a1 a2 0 = cl16 (a0 * 65793 + 116130 * (a1 - 128)) from rfl, show vA 9 a0 a1 a2 0 = 65535 from rfl] at VV
  have m0 : near (cl16 (a0 * 65793 + 91881 * (a2 - 128)) / 256) (clamp (100000 * a0 + 140200 * (a2 - 128))) 150 := by rw [cl16_up]; exact red_near a0 a2 h0 g0 h2 g2
  have m1 : near (cl16 (a0 * 65793 - 22554 * (a1 - 128) - 46802 * (a2 - 128)) / 256) (clamp (100000 * a0 - 34414 * (a1 - 128) - 71414 * (a2 - 128))) 150 := by rw [cl16_up]; exact green_near a0 a1 a2 h0 g0 h2 g2 h1 g1
  have m2 : near (cl16 (a0 * 65793 + 116130 * (a1 - 128)) / 256) (clamp (100000 * a0 + 177200 * (a1 - 128))) 150 := by rw [cl16_up]; exact blue_near a0 a1 h0 g0 h1 g1
  have r0 := cl16_range (a0 * 65793 + 91881 * (a2 - 128))
  have r1 := cl16_range (a0 * 65793 - 22554 * (a1 - 128) - 46802 * (a2 - 128))
  have r2 := cl16_range (a0 * 65793 + 116130 * (a1 - 128))
  have c0 := clamp_range (100000 * a0 + 140200 * (a2 - 128))
  have c1 := clamp_range (100000 * a0 - 34414 * (a1 - 128) - 71414 * (a2 - 128))
  have c2 := clamp_range (100000 * a0 + 177200 * (a1 - 128))
  obtain ⟨x0, hx0⟩ : ∃ x, x = cl16 (a0 * 65793 + 91881 * (a2 - 128)) := ⟨_, rfl⟩
  obtain ⟨x1, hx1⟩ : ∃ x, x = cl16 (a0 * 65793 - 22554 * (a1 - 128) - 46802 * (a2 - 128)) := ⟨_, rfl⟩
  obtain ⟨x2, hx2⟩ : ∃ x, x = cl16 (a0 * 65793 + 116130 * (a1 - 128)) := ⟨_, rfl⟩
  rw [← hx0] at VV m0 r0
  rw [← hx1] at VV m1 r1
  rw [← hx2] at VV m2 r2
  have P := Lib.hid (fun w => specPrimary a0 a1 a2 w h0 g0 h1 g1 h2 g2)
  obtain ⟨y0, hy0⟩ : ∃ x, x = clamp (100000 * a0 + 140200 * (a2 - 128)) := ⟨_, rfl⟩
  obtain ⟨y1, hy1⟩ : ∃ x, x = clamp (100000 * a0 - 34414 * (a1 - 128) - 71414 * (a2 - 128)) := ⟨_, rfl⟩
  obtain ⟨y2, hy2⟩ : ∃ x, x = clamp (100000 * a0 + 177200 * (a1 - 128)) := ⟨_, rfl⟩
  rw [← hy0] at P m0 c0
  rw [← hy1] at P m1 c1
  rw [← hy2] at P m2 c2
  clear hv hx0 hx1 hx2 hy0 hy1 hy2
  have i0 : ∀ (x0 x1 x2 : Value) (w : World), (Instr.index 37 (.agg #[x0, x1, x2]) (.int .i64 0)).run Try.prog w = .ok x0 w := fun _ _ _ _ => by kernel_rfl
  have i1 : ∀ (x0 x1 x2 : Value) (w : World), (Instr.index 37 (.agg #[x0, x1, x2]) (.int .i64 1)).run Try.prog w = .ok x1 w := fun _ _ _ _ => by kernel_rfl
  have i2 : ∀ (x0 x1 x2 : Value) (w : World), (Instr.index 37 (.agg #[x0, x1, x2]) (.int .i64 2)).run Try.prog w = .ok x2 w := fun _ _ _ _ => by kernel_rfl
  go_enter Try.func6, Try.ntmps6
  go_wp2_with fail
  refine (VV.out _).mono ?_
  rintro e w1 ⟨rfl, b1⟩
  go_wp2_with fail
  refine (P.out _).mono ?_
  rintro e w2 ⟨rfl, b2⟩
  have q0 : w2.cell? ⟨w1.heap.size, 0, none⟩ = some (.int .u32 x0) := cell_later b2 (by simp [go_sem])
  have q1 : w2.cell? ⟨w1.heap.size, 1, none⟩ = some (.int .u32 x1) := cell_later b2 (by simp [go_sem])
  have q2 : w2.cell? ⟨w1.heap.size, 2, none⟩ = some (.int .u32 x2) := cell_later b2 (by simp [go_sem])
  have q3 : w2.cell? ⟨w1.heap.size, 3, none⟩ = some (.int .u32 65535) := cell_later b2 (by simp [go_sem])
  have B2 : Below w.heap.size w w2 := later b2 (laterAlloc b1 _)
  clear b2
  go_wp2_with fail
  refine wp_loop_rounds 4 ?_
  rw [rounds_succ]
  go_wp2_with fail
  refine (specNear _ _ _ _ (by omega) (by omega) (by omega) (by omega) (by omega) (by omega) m0).mono ?_
  rintro e w' ⟨rfl, rfl⟩
  go_wp2_with fail
  rw [rounds_succ]
  go_wp2_with fail
  refine (specNear _ _ _ _ (by omega) (by omega) (by omega) (by omega) (by omega) (by omega) m1).mono ?_
  rintro e w' ⟨rfl, rfl⟩
  go_wp2_with fail
  rw [rounds_succ]
  go_wp2_with fail
  refine (specNear _ _ _ _ (by omega) (by omega) (by omega) (by omega) (by omega) (by omega) m2).mono ?_
  rintro e w' ⟨rfl, rfl⟩
  go_wp2_with fail
  rw [rounds_succ]
  go_wp2_with fail
  go_ret
  exact ⟨rfl, B2⟩
/-! ### The row's step, for FnYCbCrValues. -/
namespace FnYCbCrValuesFrame
open Go.ChangeShapes Go.WideShapes Go.ChangeAt Go.RowKit
theorem own : ownKnob Try.prog.godebug = none := by kernel_rfl
theorem laidOut : laidOutB Try.prog = true := by kernel_rfl
set_option maxRecDepth 100000 in
theorem lifted (os : Os) (started : os.Started) (H : Type) (enc : TypeId × Value → H) :
    ReturnsInHanded {} Try.checked os 6 .any (Rows.fnYCbCrValuesSpec.pre6 enc Try.prog Try.f6 Rows.fnYCbCrValuesRow.domain false) (Rows.fnYCbCrValuesSpec.post enc Try.prog Try.f6 false true false false) := by
  refine returnsInHanded_of_change (C := Try.checked) own started (by kernel_rfl) Try.func6
    (ChangeSpec.witness6 (enc := enc) (C := Try.checked) false ⟨#[], #[.int .u8 0, .int .u8 0, .int .u8 0], []⟩ 8 (by kernel_rfl) (by kernel_rfl) (by kernel_rfl) (by kernel_rfl)) ?_
  intro W base args ds gs before hval0 hW hcnd _
  have hval : ∀ (j : Nat) t v, Try.f6.params[j]? = some t → args[j]? = some v → Value.okWide Try.prog W .any base t v := hval0
  have hW' := hW
  obtain ⟨p, q, hA0, hV, rfl, hfz, hnd⟩ := hW
  have hA : DataW.TrodAll enc Try.prog W 0 (fun _ => true) true Try.f6.params.toList args.toList ds p := hA0
  rw [Try.params6] at hA hval
  obtain ⟨v0, vs0, d0, ds0, p0, q0, hargs, rfl, rfl, h0, r0⟩ := trodAll_cons hA
  obtain ⟨v1, vs1, d1, ds1, p1, q1, rfl, rfl, rfl, h1, r1⟩ := trodAll_cons r0
  obtain ⟨v2, vs2, d2, ds2, p2, q2, rfl, rfl, rfl, h2, r2⟩ := trodAll_cons r1
  obtain ⟨rfl, rfl, rfl⟩ := trodAll_nil r2
  obtain rfl : args = #[v0, v1, v2] := by cases args; simp_all
  obtain ⟨rfl, rfl⟩ := trodVars_none hV
  obtain ⟨a0, rfl, rfl, rfl, w0⟩ := open_int Try.underlying5 (hval 0 5 v0 rfl rfl) h0
  have b0 := bounds_u8 w0
  obtain ⟨a1, rfl, rfl, rfl, w1⟩ := open_int Try.underlying5 (hval 1 5 v1 rfl rfl) h1
  have b1 := bounds_u8 w1
  obtain ⟨a2, rfl, rfl, rfl, w2⟩ := open_int Try.underlying5 (hval 2 5 v2 rfl rfl) h2
  have b2 := bounds_u8 w2
  clear hA0 hval0
  refine (FnYCbCrValues_walk a0 a1 a2 b0.1 b0.2 b1.1 b1.2 b2.1 b2.2 W).mono fun e W' ⟨he, bel⟩ => ?_
  subst he
  exact ⟨_, rfl, _, _, _, [], _, [], hW', trodAll_mk1 (shut_bool Try.underlying4 _), (trodAll_cons_mk (shut_int Try.underlying5 w0) (trodAll_cons_mk (shut_int Try.underlying5 w1) (trodAll_cons_mk (shut_int Try.underlying5 w2) trodAll_mk0))), rfl, bel.frame _, fun h => by cases h⟩
theorem over : Rows.fnYCbCrValuesRow.holds Try.pinned (OpenSpec.ofChange Rows.fnYCbCrValuesSpec) :=
  OpenClaim.holds_of_wide 6 Try.f6 rfl rfl rfl rfl rfl rfl rfl ⟨rfl, rfl, rfl, rfl, rfl⟩ rfl rfl rfl rfl rfl (by kernel_rfl) Try.func6 (by kernel_rfl)
    (of_decide_eq_true (by kernel_rfl)) (by unfold Func.isWrapper; first | (rw [if_pos (by decide +kernel)]; kernel_rfl) | (rw [if_neg (by decide +kernel)]; exact ⟨rfl, rfl⟩))
    (fun os started H enc _ => lifted os started H enc)
end FnYCbCrValuesFrame
/-- THE STATEMENT. -/
theorem FnYCbCrValues_holds : Rows.FnYCbCrValuesSaid := FnYCbCrValuesFrame.over
#print axioms FnYCbCrValues_holds
end Go.Proofs.Ytmfjacbpcgcdjaa
