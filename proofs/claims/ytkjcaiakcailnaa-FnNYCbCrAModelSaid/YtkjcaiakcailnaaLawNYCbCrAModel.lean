/- The model of Y'CbCr colors with alpha keeps the alpha of a color that is not alpha-premultiplied, and converts its components as the function does: FnNYCbCrAModel returns true for every four bytes. No conditions. -/
import Derived.Test.YtkjcaiakcailnaaOpen
import Derived.Test.YtkjcaiakcailnaaConv
import Derived.Test.YtkjcaiakcailnaaValid
import Derived.Test.YtkjcaiakcailnaaHelp
import Derived.Test.YtkjcaiakcailnaaPlainLaws
import Derived.IntWalk
import Derived.Deep.DeepCutAuto
import Derived.Test.YtkjcaiakcailnaaPlainLaws2
import Derived.Test.YtkjcaiakcailnaaPlainLaws3
import Derived.Test.YtkjcaiakcailnaaKeep
import Derived.Test.YtkjcaiakcailnaaBoxP
import Derived.Deep.RegionHeld3
import Derived.Lib.MinMax
import Derived.WalkLawsBesides
namespace Go.Proofs.Ytkjcaiakcailnaa
open Go.ChangeShapes Go.WideShapes Go.ChangeAt Go.RowKit Plain
set_option linter.unusedVariables false

set_option maxRecDepth 100000 in
set_option maxHeartbeats 4000000 in
theorem FnNYCbCrAModel_walk (a0 : Int) (a1 : Int) (a2 : Int) (a3 : Int) (h0 : 0 ≤ a0) (g0 : a0 ≤ 255) (h1 : 0 ≤ a1) (g1 : a1 ≤ 255) (h2 : 0 ≤ a2) (g2 : a2 ≤ 255) (h3 : 0 ≤ a3) (g3 : a3 ≤ 255) (w : World) :
    Calls Try.prog 6 #[.int .u8 a0, .int .u8 a1, .int .u8 a2, .int .u8 a3] w fun e w' => e = .returned (.bool true) ∧ Below w.heap.size w w' := by
  have hv : valid 2 a0 a1 a2 a3 := by unfold valid proper; omega
  have hcv : valid 10 (cv0 10 2 a0 a1 a2 a3) (cv1 10 2 a0 a1 a2 a3) (cv2 10 2 a0 a1 a2 a3) (cv3 10 2 a0 a1 a2 a3) := cv_valid (by omega) hv
  have C := Lib.hid (fun w => implConvert 10 2 a0 a1 a2 a3 w (by omega) hv)
  rw [nycc_alpha a0 a1 a2 a3 h3 g3] at C hcv
  have hq := eqArr3
  by_cases hf : a3 = 255
  · subst hf
    obtain ⟨m0, m1, m2⟩ := nycc_full h0 g0 h1 g1 h2 g2
    rw [m0, m1, m2] at C
    have r0 := luma_range h0 g0 h1 g1 h2 g2
    have r1 := cb_range a0 a1 a2
    have r2 := cr_range a0 a1 a2
    clear m0 m1 m2 hv hcv
    go_enter Try.func6, Try.ntmps6
    go_wp2_with fail
    refine (C.out _).mono ?_
    rintro e w1 ⟨rfl, b1⟩
    go_wp2_with fail
    refine (lawsThree _ _ _ _ _ _ (by omega) (by omega) (by omega) (by omega) (by omega) (by omega)).mono ?_
    rintro e w2 ⟨rfl, b2⟩
    go_wp2_with fail
    refine (implRGBToYCbCr _ _ _ _ h0 g0 h1 g1 h2 g2).mono ?_
    rintro e w3 ⟨rfl, b3⟩
    go_wp2_with fail
    go_ret
    exact ⟨by simp, by repeat (first | exact Below.refl _ _ | refine laterAlloc ?_ _ | refine Below.drew ?_ | refine below_drewN ?_ _ | refine later (by assumption) ?_)⟩
  have hl : a3 < 255 := by omega
  clear hv hcv hf
  go_enter Try.func6, Try.ntmps6
  go_wp2_with fail
  refine (C.out _).mono ?_
  rintro e w1 ⟨rfl, b1⟩
  go_wp2_with fail
  go_ret
  exact ⟨rfl, by repeat (first | exact Below.refl _ _ | refine laterAlloc ?_ _ | refine Below.drew ?_ | refine below_drewN ?_ _ | refine later (by assumption) ?_)⟩
/-! ### The row's step, for FnNYCbCrAModel. -/
namespace FnNYCbCrAModelFrame
open Go.ChangeShapes Go.WideShapes Go.ChangeAt Go.RowKit
theorem own : ownKnob Try.prog.godebug = none := by kernel_rfl
theorem laidOut : laidOutB Try.prog = true := by kernel_rfl
set_option maxRecDepth 100000 in
theorem lifted (os : Os) (started : os.Started) (H : Type) (enc : TypeId × Value → H) :
    ReturnsInHanded {} Try.checked os 6 .any (Rows.fnNYCbCrAModelSpec.pre6 enc Try.prog Try.f6 Rows.fnNYCbCrAModelRow.domain false) (Rows.fnNYCbCrAModelSpec.post enc Try.prog Try.f6 false true false false) := by
  refine returnsInHanded_of_change (C := Try.checked) own started (by kernel_rfl) Try.func6
    (ChangeSpec.witness6 (enc := enc) (C := Try.checked) false ⟨#[], #[.int .u8 0, .int .u8 0, .int .u8 0, .int .u8 0], []⟩ 8 (by kernel_rfl) (by kernel_rfl) (by kernel_rfl) (by kernel_rfl)) ?_
  intro W base args ds gs before hval0 hW hcnd _
  have hval : ∀ (j : Nat) t v, Try.f6.params[j]? = some t → args[j]? = some v → Value.okWide Try.prog W .any base t v := hval0
  have hW' := hW
  obtain ⟨p, q, hA0, hV, rfl, hfz, hnd⟩ := hW
  have hA : DataW.TrodAll enc Try.prog W 0 (fun _ => true) true Try.f6.params.toList args.toList ds p := hA0
  rw [Try.params6] at hA hval
  obtain ⟨v0, vs0, d0, ds0, p0, q0, hargs, rfl, rfl, h0, r0⟩ := trodAll_cons hA
  obtain ⟨v1, vs1, d1, ds1, p1, q1, rfl, rfl, rfl, h1, r1⟩ := trodAll_cons r0
  obtain ⟨v2, vs2, d2, ds2, p2, q2, rfl, rfl, rfl, h2, r2⟩ := trodAll_cons r1
  obtain ⟨v3, vs3, d3, ds3, p3, q3, rfl, rfl, rfl, h3, r3⟩ := trodAll_cons r2
  obtain ⟨rfl, rfl, rfl⟩ := trodAll_nil r3
  obtain rfl : args = #[v0, v1, v2, v3] := by cases args; simp_all
  obtain ⟨rfl, rfl⟩ := trodVars_none hV
  obtain ⟨a0, rfl, rfl, rfl, w0⟩ := open_int Try.underlying5 (hval 0 5 v0 rfl rfl) h0
  have b0 := bounds_u8 w0
  obtain ⟨a1, rfl, rfl, rfl, w1⟩ := open_int Try.underlying5 (hval 1 5 v1 rfl rfl) h1
  have b1 := bounds_u8 w1
  obtain ⟨a2, rfl, rfl, rfl, w2⟩ := open_int Try.underlying5 (hval 2 5 v2 rfl rfl) h2
  have b2 := bounds_u8 w2
  obtain ⟨a3, rfl, rfl, rfl, w3⟩ := open_int Try.underlying5 (hval 3 5 v3 rfl rfl) h3
  have b3 := bounds_u8 w3
  clear hA0 hval0
  refine (FnNYCbCrAModel_walk a0 a1 a2 a3 b0.1 b0.2 b1.1 b1.2 b2.1 b2.2 b3.1 b3.2 W).mono fun e W' ⟨he, bel⟩ => ?_
  subst he
  exact ⟨_, rfl, _, _, _, [], _, [], hW', trodAll_mk1 (shut_bool Try.underlying4 _), (trodAll_cons_mk (shut_int Try.underlying5 w0) (trodAll_cons_mk (shut_int Try.underlying5 w1) (trodAll_cons_mk (shut_int Try.underlying5 w2) (trodAll_cons_mk (shut_int Try.underlying5 w3) trodAll_mk0)))), rfl, bel.frame _, fun h => by cases h⟩
theorem over : Rows.fnNYCbCrAModelRow.holds Try.pinned (OpenSpec.ofChange Rows.fnNYCbCrAModelSpec) :=
  OpenClaim.holds_of_wide 6 Try.f6 rfl rfl rfl rfl rfl rfl rfl ⟨rfl, rfl, rfl, rfl, rfl⟩ rfl rfl rfl rfl rfl (by kernel_rfl) Try.func6 (by kernel_rfl)
    (of_decide_eq_true (by kernel_rfl)) (by unfold Func.isWrapper; first | (rw [if_pos (by decide +kernel)]; kernel_rfl) | (rw [if_neg (by decide +kernel)]; exact ⟨rfl, rfl⟩))
    (fun os started H enc _ => lifted os started H enc)
end FnNYCbCrAModelFrame
/-- THE STATEMENT. -/
theorem FnNYCbCrAModel_holds : Rows.FnNYCbCrAModelSaid := FnNYCbCrAModelFrame.over
#print axioms FnNYCbCrAModel_holds
end Go.Proofs.Ytkjcaiakcailnaa
