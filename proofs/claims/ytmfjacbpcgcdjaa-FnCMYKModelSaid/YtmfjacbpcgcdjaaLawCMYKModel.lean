/- The model of CMYK colors makes of a color without transparency what the function makes of its upper 8 bits: FnCMYKModel returns true for every three bytes. No conditions. -/
import Derived.Test.YtmfjacbpcgcdjaaOpen
import Derived.Test.YtmfjacbpcgcdjaaConv
import Derived.Test.YtmfjacbpcgcdjaaValid
import Derived.Test.YtmfjacbpcgcdjaaHelp
import Derived.Test.YtmfjacbpcgcdjaaPlainLaws
import Derived.IntWalk
import Derived.Test.YtmfjacbpcgcdjaaPlainLaws2
import Derived.Test.YtmfjacbpcgcdjaaKeep
import Derived.Deep.RegionHeld3
import Derived.Lib.MinMax
import Derived.WalkLawsBesides
namespace Go.Proofs.Ytmfjacbpcgcdjaa
open Go.ChangeShapes Go.WideShapes Go.ChangeAt Go.RowKit Plain
set_option linter.unusedVariables false

theorem up8' {x : Int} (h0 : 0 ≤ x) (h1 : x ≤ 255) : x * 257 / 256 = x := by omega
set_option maxRecDepth 100000 in
set_option maxHeartbeats 4000000 in
theorem FnCMYKModel_walk (a0 : Int) (a1 : Int) (a2 : Int) (h0 : 0 ≤ a0) (g0 : a0 ≤ 255) (h1 : 0 ≤ a1) (g1 : a1 ≤ 255) (h2 : 0 ≤ a2) (g2 : a2 ≤ 255) (w : World) :
    Calls Try.prog 12 #[.int .u8 a0, .int .u8 a1, .int .u8 a2] w fun e w' => e = .returned (.bool true) ∧ Below w.heap.size w w' := by
  have hv : valid 0 a0 a1 a2 255 := by unfold valid proper; omega
  have CV := Lib.hid (fun w => implConvert 8 0 a0 a1 a2 255 w (by omega) hv)
  have c0 : cv0 8 0 a0 a1 a2 255 = inkOf (most a0 a1 a2) a0 := by show inkOf (most (a0 * 257 / 256) (a1 * 257 / 256) (a2 * 257 / 256)) (a0 * 257 / 256) = _; rw [up8' h0 g0, up8' h1 g1, up8' h2 g2]
  have c1 : cv1 8 0 a0 a1 a2 255 = inkOf (most a0 a1 a2) a1 := by show inkOf (most (a0 * 257 / 256) (a1 * 257 / 256) (a2 * 257 / 256)) (a1 * 257 / 256) = _; rw [up8' h0 g0, up8' h1 g1, up8' h2 g2]
  have c2 : cv2 8 0 a0 a1 a2 255 = inkOf (most a0 a1 a2) a2 := by show inkOf (most (a0 * 257 / 256) (a1 * 257 / 256) (a2 * 257 / 256)) (a2 * 257 / 256) = _; rw [up8' h0 g0, up8' h1 g1, up8' h2 g2]
  have c3 : cv3 8 0 a0 a1 a2 255 = 255 - most a0 a1 a2 := by show 255 - most (a0 * 257 / 256) (a1 * 257 / 256) (a2 * 257 / 256) = _; rw [up8' h0 g0, up8' h1 g1, up8' h2 g2]
  rw [c0, c1, c2, c3] at CV
  have hw : 0 ≤ most a0 a1 a2 ∧ most a0 a1 a2 ≤ 255 ∧ a0 ≤ most a0 a1 a2 ∧ a1 ≤ most a0 a1 a2 ∧ a2 ≤ most a0 a1 a2 := by unfold most; omega
  have k0 := inkOf_range h0 hw.2.2.1
  have k1 := inkOf_range h1 hw.2.2.2.1
  have k2 := inkOf_range h2 hw.2.2.2.2
  clear hv c0 c1 c2 c3
  have hq := eqArr4h
  go_enter Try.func12, Try.ntmps12
  go_wp2_with fail
  refine (lawsOpaque a0 a1 a2 _ h0 g0 h1 g1 h2 g2).mono ?_
  rintro e w1 ⟨rfl, b1⟩
  go_wp2_with fail
  refine (CV.out _).mono ?_
  rintro e w2 ⟨rfl, b2⟩
  go_wp2_with fail
  refine (implRGBToCMYK _ _ _ _ h0 g0 h1 g1 h2 g2).mono ?_
  rintro e w3 ⟨rfl, b3⟩
  go_wp2
  go_ret
  exact ⟨by simp, by repeat (first | exact Below.refl _ _ | refine laterAlloc ?_ _ | refine Below.drew ?_ | refine below_drewN ?_ _ | refine later (by assumption) ?_)⟩
/-! ### The row's step, for FnCMYKModel. -/
namespace FnCMYKModelFrame
open Go.ChangeShapes Go.WideShapes Go.ChangeAt Go.RowKit
theorem own : ownKnob Try.prog.godebug = none := by kernel_rfl
theorem laidOut : laidOutB Try.prog = true := by kernel_rfl
set_option maxRecDepth 100000 in
theorem lifted (os : Os) (started : os.Started) (H : Type) (enc : TypeId × Value → H) :
    ReturnsInHanded {} Try.checked os 12 .any (Rows.fnCMYKModelSpec.pre6 enc Try.prog Try.f12 Rows.fnCMYKModelRow.domain false) (Rows.fnCMYKModelSpec.post enc Try.prog Try.f12 false true false false) := by
  refine returnsInHanded_of_change (C := Try.checked) own started (by kernel_rfl) Try.func12
    (ChangeSpec.witness6 (enc := enc) (C := Try.checked) false ⟨#[], #[.int .u8 0, .int .u8 0, .int .u8 0], []⟩ 8 (by kernel_rfl) (by kernel_rfl) (by kernel_rfl) (by kernel_rfl)) ?_
  intro W base args ds gs before hval0 hW hcnd _
  have hval : ∀ (j : Nat) t v, Try.f12.params[j]? = some t → args[j]? = some v → Value.okWide Try.prog W .any base t v := hval0
  have hW' := hW
  obtain ⟨p, q, hA0, hV, rfl, hfz, hnd⟩ := hW
  have hA : DataW.TrodAll enc Try.prog W 0 (fun _ => true) true Try.f12.params.toList args.toList ds p := hA0
  rw [Try.params12] at hA hval
  obtain ⟨v0, vs0, d0, ds0, p0, q0, hargs, rfl, rfl, h0, r0⟩ := trodAll_cons hA
  obtain ⟨v1, vs1, d1, ds1, p1, q1, rfl, rfl, rfl, h1, r1⟩ := trodAll_cons r0
  obtain ⟨v2, vs2, d2, ds2, p2, q2, rfl, rfl, rfl, h2, r2⟩ := trodAll_cons r1
  obtain ⟨rfl, rfl, rfl⟩ := trodAll_nil r2
  obtain rfl : args = #[v0, v1, v2] := by cases args; simp_all
  obtain ⟨rfl, rfl⟩ := trodVars_none hV
  obtain ⟨a0, rfl, rfl, rfl, w0⟩ := open_int Try.underlying5 (hval 0 5 v0 rfl rfl) h0
  have b0 := bounds_u8 w0
  obtain ⟨a1, rfl, rfl, rfl, w1⟩ := open_int Try.underlying5 (hval 1 5 v1 rfl rfl) h1
  have b1 := bounds_u8 w1
  obtain ⟨a2, rfl, rfl, rfl, w2⟩ := open_int Try.underlying5 (hval 2 5 v2 rfl rfl) h2
  have b2 := bounds_u8 w2
  clear hA0 hval0
  refine (FnCMYKModel_walk a0 a1 a2 b0.1 b0.2 b1.1 b1.2 b2.1 b2.2 W).mono fun e W' ⟨he, bel⟩ => ?_
  subst he
  exact ⟨_, rfl, _, _, _, [], _, [], hW', trodAll_mk1 (shut_bool Try.underlying4 _), (trodAll_cons_mk (shut_int Try.underlying5 w0) (trodAll_cons_mk (shut_int Try.underlying5 w1) (trodAll_cons_mk (shut_int Try.underlying5 w2) trodAll_mk0))), rfl, bel.frame _, fun h => by cases h⟩
theorem over : Rows.fnCMYKModelRow.holds Try.pinned (OpenSpec.ofChange Rows.fnCMYKModelSpec) :=
  OpenClaim.holds_of_wide 12 Try.f12 rfl rfl rfl rfl rfl rfl rfl ⟨rfl, rfl, rfl, rfl, rfl⟩ rfl rfl rfl rfl rfl (by kernel_rfl) Try.func12 (by kernel_rfl)
    (of_decide_eq_true (by kernel_rfl)) (by unfold Func.isWrapper; first | (rw [if_pos (by decide +kernel)]; kernel_rfl) | (rw [if_neg (by decide +kernel)]; exact ⟨rfl, rfl⟩))
    (fun os started H enc _ => lifted os started H enc)
end FnCMYKModelFrame
/-- THE STATEMENT. -/
theorem FnCMYKModel_holds : Rows.FnCMYKModelSaid := FnCMYKModelFrame.over
#print axioms FnCMYKModel_holds
end Go.Proofs.Ytmfjacbpcgcdjaa
