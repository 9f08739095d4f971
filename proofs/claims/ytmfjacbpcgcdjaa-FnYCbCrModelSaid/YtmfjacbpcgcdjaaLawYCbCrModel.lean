/- The model of Y'CbCr colors makes of a color without transparency what the function makes of its upper 8 bits: FnYCbCrModel returns true for every three bytes. No conditions. -/
import Derived.Test.YtmfjacbpcgcdjaaOpen
import Derived.Test.YtmfjacbpcgcdjaaConv
import Derived.Test.YtmfjacbpcgcdjaaValid
import Derived.Test.YtmfjacbpcgcdjaaHelp
import Derived.Test.YtmfjacbpcgcdjaaPlainLaws
import Derived.Deep.RegionHeld3
import Derived.Lib.MinMax
import Derived.WalkLawsBesides
namespace Go.Proofs.Ytmfjacbpcgcdjaa
open Go.ChangeShapes Go.WideShapes Go.ChangeAt Go.RowKit Plain
set_option linter.unusedVariables false

theorem up8 {x : Int} (h0 : 0 ≤ x) (h1 : x ≤ 255) : x * 257 / 256 = x := by omega
set_option maxRecDepth 100000 in
set_option maxHeartbeats 4000000 in
theorem FnYCbCrModel_walk (a0 : Int) (a1 : Int) (a2 : Int) (h0 : 0 ≤ a0) (g0 : a0 ≤ 255) (h1 : 0 ≤ a1) (g1 : a1 ≤ 255) (h2 : 0 ≤ a2) (g2 : a2 ≤ 255) (w : World) :
    Calls Try.prog 7 #[.int .u8 a0, .int .u8 a1, .int .u8 a2] w fun e w' => e = .returned (.bool true) ∧ Below w.heap.size w w' := by
  have hv : valid 0 a0 a1 a2 255 := by unfold valid proper; omega
  have c0 : cv0 9 0 a0 a1 a2 255 = lumaOf a0 a1 a2 := by show lumaOf (a0 * 257 / 256) (a1 * 257 / 256) (a2 * 257 / 256) = _; rw [up8 h0 g0, up8 h1 g1, up8 h2 g2]
  have c1 : cv1 9 0 a0 a1 a2 255 = cbOf a0 a1 a2 := by show cbOf (a0 * 257 / 256) (a1 * 257 / 256) (a2 * 257 / 256) = _; rw [up8 h0 g0, up8 h1 g1, up8 h2 g2]
  have c2 : cv2 9 0 a0 a1 a2 255 = crOf a0 a1 a2 := by show crOf (a0 * 257 / 256) (a1 * 257 / 256) (a2 * 257 / 256) = _; rw [up8 h0 g0, up8 h1 g1, up8 h2 g2]
  have r0 := luma_range h0 g0 h1 g1 h2 g2
  have r1 := cb_range a0 a1 a2
  have r2 := cr_range a0 a1 a2
  have CV := Lib.hid (fun w => implConvert 9 0 a0 a1 a2 255 w (by omega) hv)
  rw [c0, c1, c2] at CV
  clear hv c0 c1 c2
  have hq := eqArr3
  go_enter Try.func7, Try.ntmps7
  go_wp2_with fail
  refine (lawsOpaque a0 a1 a2 _ h0 g0 h1 g1 h2 g2).mono ?_
  rintro e w1 ⟨rfl, b1⟩
  go_wp2_with fail
  refine (CV.out _).mono ?_
  rintro e w2 ⟨rfl, b2⟩
  go_wp2_with fail
  refine (lawsThree _ _ _ _ _ _ (by omega) (by omega) (by omega) (by omega) (by omega) (by omega)).mono ?_
  rintro e w3 ⟨rfl, b3⟩
  go_wp2_with fail
  refine (implRGBToYCbCr _ _ _ _ h0 g0 h1 g1 h2 g2).mono ?_
  rintro e w4 ⟨rfl, b4⟩
  go_wp2_with fail
  go_ret
  exact ⟨by simp, by repeat (first | exact Below.refl _ _ | refine laterAlloc ?_ _ | refine Below.drew ?_ | refine below_drewN ?_ _ | refine later (by assumption) ?_)⟩
/-! ### The row's step, for FnYCbCrModel. -/
namespace FnYCbCrModelFrame
open Go.ChangeShapes Go.WideShapes Go.ChangeAt Go.RowKit
theorem own : ownKnob Try.prog.godebug = none := by kernel_rfl
theorem laidOut : laidOutB Try.prog = true := by kernel_rfl
set_option maxRecDepth 100000 in
theorem lifted (os : Os) (started : os.Started) (H : Type) (enc : TypeId × Value → H) :
    ReturnsInHanded {} Try.checked os 7 .any (Rows.fnYCbCrModelSpec.pre6 enc Try.prog Try.f7 Rows.fnYCbCrModelRow.domain false) (Rows.fnYCbCrModelSpec.post enc Try.prog Try.f7 false true false false) := by
  refine returnsInHanded_of_change (C := Try.checked) own started (by kernel_rfl) Try.func7
    (ChangeSpec.witness6 (enc := enc) (C := Try.checked) false ⟨#[], #[.int .u8 0, .int .u8 0, .int .u8 0], []⟩ 8 (by kernel_rfl) (by kernel_rfl) (by kernel_rfl) (by kernel_rfl)) ?_
  intro W base args ds gs before hval0 hW hcnd _
  have hval : ∀ (j : Nat) t v, Try.f7.params[j]? = some t → args[j]? = some v → Value.okWide Try.prog W .any base t v := hval0
  have hW' := hW
  obtain ⟨p, q, hA0, hV, rfl, hfz, hnd⟩ := hW
  have hA : DataW.TrodAll enc Try.prog W 0 (fun _ => true) true Try.f7.params.toList args.toList ds p := hA0
  rw [Try.params7] at hA hval
  obtain ⟨v0, vs0, d0, ds0, p0, q0, hargs, rfl, rfl, h0, r0⟩ := trodAll_cons hA
  obtain ⟨v1, vs1, d1, ds1, p1, q1, rfl, rfl, rfl, h1, r1⟩ := trodAll_cons r0
  obtain ⟨v2, vs2, d2, ds2, p2, q2, rfl, rfl, rfl, h2, r2⟩ := trodAll_cons r1
  obtain ⟨rfl, rfl, rfl⟩ := trodAll_nil r2
  obtain rfl : args = #[v0, v1, v2] := by cases args; simp_all
  obtain ⟨rfl, rfl⟩ := trodVars_none hV
  obtain ⟨a0, rfl, rfl, rfl, w0⟩ := open_int Try.underlying5 (hval 0 5 v0 rfl rfl) h0
  have b0 := bounds_u8 w0
  obtain ⟨a1, rfl, rfl, rfl, w1⟩ := open_int Try.underlying5 (hval 1 5 v1 rfl rfl) h1
  have b1 := bounds_u8 w1
  obtain ⟨a2, rfl, rfl, rfl, w2⟩ := open_int Try.underlying5 (hval 2 5 v2 rfl rfl) h2
  have b2 := bounds_u8 w2
  clear hA0 hval0
  refine (FnYCbCrModel_walk a0 a1 a2 b0.1 b0.2 b1.1 b1.2 b2.1 b2.2 W).mono fun e W' ⟨he, bel⟩ => ?_
  subst he
  exact ⟨_, rfl, _, _, _, [], _, [], hW', trodAll_mk1 (shut_bool Try.underlying4 _), (trodAll_cons_mk (shut_int Try.underlying5 w0) (trodAll_cons_mk (shut_int Try.underlying5 w1) (trodAll_cons_mk (shut_int Try.underlying5 w2) trodAll_mk0))), rfl, bel.frame _, fun h => by cases h⟩
theorem over : Rows.fnYCbCrModelRow.holds Try.pinned (OpenSpec.ofChange Rows.fnYCbCrModelSpec) :=
  OpenClaim.holds_of_wide 7 Try.f7 rfl rfl rfl rfl rfl rfl rfl ⟨rfl, rfl, rfl, rfl, rfl⟩ rfl rfl rfl rfl rfl (by kernel_rfl) Try.func7 (by kernel_rfl)
    (of_decide_eq_true (by kernel_rfl)) (by unfold Func.isWrapper; first | (rw [if_pos (by decide +kernel)]; kernel_rfl) | (rw [if_neg (by decide +kernel)]; exact ⟨rfl, rfl⟩))
    (fun os started H enc _ => lifted os started H enc)
end FnYCbCrModelFrame
/-- THE STATEMENT. -/
theorem FnYCbCrModel_holds : Rows.FnYCbCrModelSaid := FnYCbCrModelFrame.over
#print axioms FnYCbCrModel_holds
end Go.Proofs.Ytmfjacbpcgcdjaa
