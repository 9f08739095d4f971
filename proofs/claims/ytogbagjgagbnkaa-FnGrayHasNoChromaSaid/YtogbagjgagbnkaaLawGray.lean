/- Grays have the luma of their value and the chroma 128, and come back as they were: FnGrayHasNoChroma returns true for every byte. No conditions. -/
import Derived.Test.YtogbagjgagbnkaaCmyk
import Derived.Test.YtogbagjgagbnkaaYcc
import Derived.Test.YtogbagjgagbnkaaSpec
import Derived.Test.YtogbagjgagbnkaaEqArr
import Derived.Deep.RegionHeld3
import Derived.Lib.MinMax
import Derived.WalkLawsBesides
namespace Go.Proofs.Ytogbagjgagbnkaa
open Go.ChangeShapes Go.WideShapes Go.ChangeAt Go.RowKit Plain
set_option linter.unusedVariables false

set_option maxHeartbeats 1000000 in
theorem FnGrayHasNoChroma_walk (a0 : Int) (h0 : 0 ≤ a0) (g0 : a0 ≤ 255) (w : World) :
    Calls Try.prog 9 #[.int .u8 a0] w fun e w' => e = .returned (.bool true) ∧ Below w.heap.size w w' := by
  obtain ⟨m0, m1, m2, m3, m4, m5⟩ := gray_luma a0 h0 g0
  have hq := eqArr3
  go_enter Try.func9, Try.ntmps9
  go_wp2_with fail
  refine (implRGBToYCbCr _ _ _ _ (by omega) (by omega) (by omega) (by omega) (by omega) (by omega)).mono ?_
  rintro e w1 ⟨rfl, bw1⟩
  go_wp2_with fail
  refine (implYCbCrToRGB _ _ _ _ (by omega) (by omega) (by omega) (by omega) (by omega) (by omega)).mono ?_
  rintro e w2 ⟨rfl, bw2⟩
  go_wp2_with fail
  go_ret
  exact ⟨rfl, by repeat (first | exact Below.refl _ _ | refine laterAlloc ?_ _ | refine Below.drew ?_ | refine later (by assumption) ?_)⟩
/-! ### The row's step, for FnGrayHasNoChroma. -/
namespace FnGrayHasNoChromaFrame
open Go.ChangeShapes Go.WideShapes Go.ChangeAt Go.RowKit
theorem own : ownKnob Try.prog.godebug = none := by kernel_rfl
set_option maxRecDepth 100000 in
theorem lifted (os : Os) (started : os.Started) (H : Type) (enc : TypeId × Value → H) :
    ReturnsInHanded {} Try.checked os 9 .any (Rows.fnGrayHasNoChromaSpec.pre6 enc Try.prog Try.f9 Rows.fnGrayHasNoChromaRow.domain false) (Rows.fnGrayHasNoChromaSpec.post enc Try.prog Try.f9 false true false false) := by
  refine returnsInHanded_of_change (C := Try.checked) own started (by kernel_rfl) Try.func9
    (ChangeSpec.witness6 (enc := enc) (C := Try.checked) false ⟨#[], #[.int .u8 0], []⟩ 8 (by kernel_rfl) (by kernel_rfl) (by kernel_rfl) (by kernel_rfl)) ?_
  intro W base args ds gs before hval0 hW hcnd _
  have hval : ∀ (j : Nat) t v, Try.f9.params[j]? = some t → args[j]? = some v → Value.okWide Try.prog W .any base t v := hval0
  have hW' := hW
  obtain ⟨p, q, hA0, hV, rfl, hfz, hnd⟩ := hW
  have hA : DataW.TrodAll enc Try.prog W 0 (fun _ => true) true Try.f9.params.toList args.toList ds p := hA0
  rw [Try.params9] at hA hval
  obtain ⟨v0, vs0, d0, ds0, p0, q0, hargs, rfl, rfl, h0, r0⟩ := trodAll_cons hA
  obtain ⟨rfl, rfl, rfl⟩ := trodAll_nil r0
  obtain rfl : args = #[v0] := by cases args; simp_all
  obtain ⟨rfl, rfl⟩ := trodVars_none hV
  obtain ⟨a0, rfl, rfl, rfl, w0⟩ := open_int Try.underlying5 (hval 0 5 v0 rfl rfl) h0
  have b0 := bounds_u8 w0
  clear hA0 hval0
  refine (FnGrayHasNoChroma_walk a0 b0.1 b0.2 W).mono fun e W' ⟨he, bel⟩ => ?_
  subst he
  exact ⟨_, rfl, _, _, _, [], _, [], hW', trodAll_mk1 (shut_bool Try.underlying4 _), (trodAll_cons_mk (shut_int Try.underlying5 w0) trodAll_mk0), rfl, bel.frame _, fun h => by cases h⟩
theorem over : Rows.fnGrayHasNoChromaRow.holds Try.pinned (OpenSpec.ofChange Rows.fnGrayHasNoChromaSpec) :=
  OpenClaim.holds_of_wide 9 Try.f9 rfl rfl rfl rfl rfl rfl rfl ⟨rfl, rfl, rfl, rfl, rfl⟩ rfl rfl rfl rfl rfl (by kernel_rfl) Try.func9 (by kernel_rfl)
    (of_decide_eq_true (by kernel_rfl)) (by unfold Func.isWrapper; first | (rw [if_pos (by decide +kernel)]; kernel_rfl) | (rw [if_neg (by decide +kernel)]; exact ⟨rfl, rfl⟩))
    (fun os started H enc _ => lifted os started H enc)
end FnGrayHasNoChromaFrame
/-- THE STATEMENT. -/
theorem FnGrayHasNoChroma_holds : Rows.FnGrayHasNoChromaSaid := FnGrayHasNoChromaFrame.over
#print axioms FnGrayHasNoChroma_holds
end Go.Proofs.Ytogbagjgagbnkaa
