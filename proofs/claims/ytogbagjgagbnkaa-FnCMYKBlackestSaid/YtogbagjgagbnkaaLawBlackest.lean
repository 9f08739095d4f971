/- As much black as possible: FnCMYKBlackest returns true for every three bytes. No conditions. -/
import Derived.Test.YtogbagjgagbnkaaCmyk
import Derived.Test.YtogbagjgagbnkaaYcc
import Derived.Test.YtogbagjgagbnkaaSpec
import Derived.Test.YtogbagjgagbnkaaEqArr
import Derived.Deep.RegionHeld3
import Derived.Lib.MinMax
import Derived.WalkLawsBesides
namespace Go.Proofs.Ytogbagjgagbnkaa
open Go.ChangeShapes Go.WideShapes Go.ChangeAt Go.RowKit Plain
set_option linter.unusedVariables false

set_option maxHeartbeats 1000000 in
theorem FnCMYKBlackest_walk (a0 a1 a2 : Int) (h0 : 0 ≤ a0) (g0 : a0 ≤ 255) (h1 : 0 ≤ a1) (g1 : a1 ≤ 255) (h2 : 0 ≤ a2) (g2 : a2 ≤ 255) (w : World) :
    Calls Try.prog 4 #[.int .u8 a0, .int .u8 a1, .int .u8 a2] w fun e w' => e = .returned (.bool true) ∧ Below w.heap.size w w' := by
  have hd : inkOf (most a0 a1 a2) a0 = 0 ∨ inkOf (most a0 a1 a2) a1 = 0 ∨ inkOf (most a0 a1 a2) a2 = 0 := ink_none a0 a1 a2
  have hmr : 0 ≤ most a0 a1 a2 ∧ most a0 a1 a2 ≤ 255 := by unfold most; omega
  by_cases e0 : inkOf (most a0 a1 a2) a0 = 0
  · clear hd
    go_enter Try.func4, Try.ntmps4
    go_wp2_with fail
    refine (implRGBToCMYK _ _ _ _ (by omega) (by omega) (by omega) (by omega) (by omega) (by omega)).mono ?_
    rintro e w1 ⟨rfl, bw1⟩
    go_wp2
    all_goals go_ret
    all_goals refine ⟨ret_bool ?_, by repeat (first | exact Below.refl _ _ | refine laterAlloc ?_ _ | refine Below.drew ?_ | refine later (by assumption) ?_)⟩
    all_goals first | rfl | (rw [beq_iff_eq]; unfold most; omega)
  by_cases e1 : inkOf (most a0 a1 a2) a1 = 0
  · clear hd
    go_enter Try.func4, Try.ntmps4
    go_wp2_with fail
    refine (implRGBToCMYK _ _ _ _ (by omega) (by omega) (by omega) (by omega) (by omega) (by omega)).mono ?_
    rintro e w1 ⟨rfl, bw1⟩
    go_wp2
    all_goals go_ret
    all_goals refine ⟨ret_bool ?_, by repeat (first | exact Below.refl _ _ | refine laterAlloc ?_ _ | refine Below.drew ?_ | refine later (by assumption) ?_)⟩
    all_goals first | rfl | (rw [beq_iff_eq]; unfold most; omega)
  have e2 : inkOf (most a0 a1 a2) a2 = 0 := by omega
  clear hd
  go_enter Try.func4, Try.ntmps4
  go_wp2_with fail
  refine (implRGBToCMYK _ _ _ _ (by omega) (by omega) (by omega) (by omega) (by omega) (by omega)).mono ?_
  rintro e w1 ⟨rfl, bw1⟩
  go_wp2
  all_goals go_ret
  all_goals refine ⟨ret_bool ?_, by repeat (first | exact Below.refl _ _ | refine laterAlloc ?_ _ | refine Below.drew ?_ | refine later (by assumption) ?_)⟩
  all_goals first | rfl | (rw [beq_iff_eq]; unfold most; omega)
/-! ### The row's step, for FnCMYKBlackest. -/
namespace FnCMYKBlackestFrame
open Go.ChangeShapes Go.WideShapes Go.ChangeAt Go.RowKit
theorem own : ownKnob Try.prog.godebug = none := by kernel_rfl
set_option maxRecDepth 100000 in
theorem lifted (os : Os) (started : os.Started) (H : Type) (enc : TypeId × Value → H) :
    ReturnsInHanded {} Try.checked os 4 .any (Rows.fnCMYKBlackestSpec.pre6 enc Try.prog Try.f4 Rows.fnCMYKBlackestRow.domain false) (Rows.fnCMYKBlackestSpec.post enc Try.prog Try.f4 false true false false) := by
  refine returnsInHanded_of_change (C := Try.checked) own started (by kernel_rfl) Try.func4
    (ChangeSpec.witness6 (enc := enc) (C := Try.checked) false ⟨#[], #[.int .u8 0, .int .u8 0, .int .u8 0], []⟩ 8 (by kernel_rfl) (by kernel_rfl) (by kernel_rfl) (by kernel_rfl)) ?_
  intro W base args ds gs before hval0 hW hcnd _
  have hval : ∀ (j : Nat) t v, Try.f4.params[j]? = some t → args[j]? = some v → Value.okWide Try.prog W .any base t v := hval0
  have hW' := hW
  obtain ⟨p, q, hA0, hV, rfl, hfz, hnd⟩ := hW
  have hA : DataW.TrodAll enc Try.prog W 0 (fun _ => true) true Try.f4.params.toList args.toList ds p := hA0
  rw [Try.params4] at hA hval
  obtain ⟨v0, vs0, d0, ds0, p0, q0, hargs, rfl, rfl, h0, r0⟩ := trodAll_cons hA
  obtain ⟨v1, vs1, d1, ds1, p1, q1, rfl, rfl, rfl, h1, r1⟩ := trodAll_cons r0
  obtain ⟨v2, vs2, d2, ds2, p2, q2, rfl, rfl, rfl, h2, r2⟩ := trodAll_cons r1
  obtain ⟨rfl, rfl, rfl⟩ := trodAll_nil r2
  obtain rfl : args = #[v0, v1, v2] := by cases args; simp_all
  obtain ⟨rfl, rfl⟩ := trodVars_none hV
  obtain ⟨a0, rfl, rfl, rfl, w0⟩ := open_int Try.underlying5 (hval 0 5 v0 rfl rfl) h0
  have b0 := bounds_u8 w0
  obtain ⟨a1, rfl, rfl, rfl, w1⟩ := open_int Try.underlying5 (hval 1 5 v1 rfl rfl) h1
  have b1 := bounds_u8 w1
  obtain ⟨a2, rfl, rfl, rfl, w2⟩ := open_int Try.underlying5 (hval 2 5 v2 rfl rfl) h2
  have b2 := bounds_u8 w2
  clear hA0 hval0
  refine (FnCMYKBlackest_walk a0 a1 a2 b0.1 b0.2 b1.1 b1.2 b2.1 b2.2 W).mono fun e W' ⟨he, bel⟩ => ?_
  subst he
  exact ⟨_, rfl, _, _, _, [], _, [], hW', trodAll_mk1 (shut_bool Try.underlying4 _), (trodAll_cons_mk (shut_int Try.underlying5 w0) (trodAll_cons_mk (shut_int Try.underlying5 w1) (trodAll_cons_mk (shut_int Try.underlying5 w2) trodAll_mk0))), rfl, bel.frame _, fun h => by cases h⟩
theorem over : Rows.fnCMYKBlackestRow.holds Try.pinned (OpenSpec.ofChange Rows.fnCMYKBlackestSpec) :=
  OpenClaim.holds_of_wide 4 Try.f4 rfl rfl rfl rfl rfl rfl rfl ⟨rfl, rfl, rfl, rfl, rfl⟩ rfl rfl rfl rfl rfl (by kernel_rfl) Try.func4 (by kernel_rfl)
    (of_decide_eq_true (by kernel_rfl)) (by unfold Func.isWrapper; first | (rw [if_pos (by decide +kernel)]; kernel_rfl) | (rw [if_neg (by decide +kernel)]; exact ⟨rfl, rfl⟩))
    (fun os started H enc _ => lifted os started H enc)
end FnCMYKBlackestFrame
/-- THE STATEMENT. -/
theorem FnCMYKBlackest_holds : Rows.FnCMYKBlackestSaid := FnCMYKBlackestFrame.over
#print axioms FnCMYKBlackest_holds
end Go.Proofs.Ytogbagjgagbnkaa
