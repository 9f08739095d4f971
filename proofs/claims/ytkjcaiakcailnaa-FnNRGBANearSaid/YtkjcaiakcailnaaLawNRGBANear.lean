/- Colors of 8 bits a component, not alpha-premultiplied, have values less than two steps from those of the color: FnNRGBANear returns true for every color. No conditions. -/
import Derived.Test.YtkjcaiakcailnaaOpen
import Derived.Test.YtkjcaiakcailnaaConv
import Derived.Test.YtkjcaiakcailnaaValid
import Derived.Test.YtkjcaiakcailnaaHelp
import Derived.Test.YtkjcaiakcailnaaPlainLaws
import Derived.Deep.RegionHeld3
import Derived.Lib.MinMax
import Derived.WalkLawsBesides
namespace Go.Proofs.Ytkjcaiakcailnaa
open Go.ChangeShapes Go.WideShapes Go.ChangeAt Go.RowKit Plain
set_option linter.unusedVariables false

set_option maxRecDepth 100000 in
set_option maxHeartbeats 4000000 in
theorem FnNRGBANear_walk (k a b c d : Int) (hk0 : -9223372036854775808 ≤ k) (hk1 : k ≤ 9223372036854775807) (ha0 : 0 ≤ a) (ha1 : a ≤ 65535) (hb0 : 0 ≤ b) (hb1 : b ≤ 65535) (hc0 : 0 ≤ c) (hc1 : c ≤ 65535) (hd0 : 0 ≤ d) (hd1 : d ≤ 65535) (w : World) :
    Calls Try.prog 5 #[.agg #[.int .i64 k, .int .u16 a, .int .u16 b, .int .u16 c, .int .u16 d]] w fun e w' => e = .returned (.bool true) ∧ Below w.heap.size w w' := by
  by_cases hv : valid k a b c d
  rotate_left
  · have V := Lib.hid (fun w => specValid_no k a b c d w ha0 ha1 hb0 hb1 hc0 hc1 hd0 hd1 hv)
    clear hv
    go_enter Try.func5, Try.ntmps5
    go_wp2_with fail
    refine (V.out _).mono ?_
    rintro e w1 ⟨rfl, b1⟩
    go_wp2_with fail
    go_ret
    exact ⟨rfl, by repeat (first | exact Below.refl _ _ | refine laterAlloc ?_ _ | refine Below.drew ?_ | refine below_drewN ?_ _ | refine later (by assumption) ?_)⟩
  have hcv : valid 2 (cv0 2 k a b c d) (cv1 2 k a b c d) (cv2 2 k a b c d) (cv3 2 k a b c d) := cv_valid (by omega) hv
  have rv := vals_range hv
  have rw := vals_range hcv
  have nr := near_nrgba hv
  unfold wR wG wB wA nearTo at nr
  have V := Lib.hid (fun w => specValid_yes k a b c d w hv)
  go_enter Try.func5, Try.ntmps5
  go_wp2_with fail
  refine (V.out _).mono ?_
  rintro e w1 ⟨rfl, b1⟩
  obtain ⟨cc, cf⟩ := bcell b1
  have e0 : w1.cell? ⟨w.heap.size, 0, none⟩ = some (.int .i64 k) := cell_later b1 (by simp [go_sem])
  have e1 : w1.cell? ⟨w.heap.size, 1, none⟩ = some (.int .u16 a) := cell_later b1 (by simp [go_sem])
  have e2 : w1.cell? ⟨w.heap.size, 2, none⟩ = some (.int .u16 b) := cell_later b1 (by simp [go_sem])
  have e3 : w1.cell? ⟨w.heap.size, 3, none⟩ = some (.int .u16 c) := cell_later b1 (by simp [go_sem])
  have e4 : w1.cell? ⟨w.heap.size, 4, none⟩ = some (.int .u16 d) := cell_later b1 (by simp [go_sem])
  have B1 : Below w.heap.size w w1 := later b1 (laterAlloc (Below.refl _ _) _)
  have hz : w.heap.size < w1.heap.size := by have := b1.size; simp at this; omega
  clear cc cf b1 V
  go_wp2_with fail
  go_region_held3 (fun w' => Below w.heap.size w w' ∧ w'.cell? ⟨w.heap.size, 0, none⟩ = some (.int .i64 k) ∧ w'.cell? ⟨w.heap.size, 1, none⟩ = some (.int .u16 a) ∧ w'.cell? ⟨w.heap.size, 2, none⟩ = some (.int .u16 b) ∧ w'.cell? ⟨w.heap.size, 3, none⟩ = some (.int .u16 c) ∧ w'.cell? ⟨w.heap.size, 4, none⟩ = some (.int .u16 d))
    (first | exact ⟨B1.drew, e0, e1, e2, e3, e4⟩ | assumption | exact keep5 (by assumption) (by assumption))
    (first | (go_at_call 12; refine (lawsWhite _).mono ?_; rintro e w' ⟨rfl, hb⟩) | (go_at_call 10; refine (implConvert 2 k a b c d _ (by omega) hv).mono ?_; rintro e w' ⟨rfl, hb⟩) | (go_at_call 9; refine (implValues _ _ _ _ _ _ (by first | exact hv | exact hcv)).mono ?_; rintro e w' ⟨rfl, hb⟩) | (go_at_call 13; refine (lawsWithin _ _ _ _ _ _ _ _ _ _ (by omega) (by omega) (by omega) (by omega) (by omega) (by omega) (by omega) (by omega) (by omega) (by omega) (by omega) (by omega) (by omega) (by omega) (by omega) (by omega) (by omega) (by omega) (by omega) (by omega)).mono ?_; rintro e w' ⟨rfl, hb⟩))
  go_wp2
  go_ret
  rename_i hH
  exact ⟨rfl, hH.1⟩
/-! ### The row's step, for FnNRGBANear. -/
namespace FnNRGBANearFrame
open Go.ChangeShapes Go.WideShapes Go.ChangeAt Go.RowKit
theorem own : ownKnob Try.prog.godebug = none := by kernel_rfl
theorem laidOut : laidOutB Try.prog = true := by kernel_rfl
set_option maxRecDepth 100000 in
theorem lifted (os : Os) (started : os.Started) (H : Type) (enc : TypeId × Value → H) :
    ReturnsInHanded {} Try.checked os 5 .any (Rows.fnNRGBANearSpec.pre6 enc Try.prog Try.f5 Rows.fnNRGBANearRow.domain false) (Rows.fnNRGBANearSpec.post enc Try.prog Try.f5 false true false false) := by
  refine returnsInHanded_of_change (C := Try.checked) own started (by kernel_rfl) Try.func5
    (ChangeSpec.witness6 (enc := enc) (C := Try.checked) false ⟨#[], #[.agg #[.int .i64 0, .int .u16 0, .int .u16 0, .int .u16 0, .int .u16 0]], []⟩ 8 (by kernel_rfl) (by kernel_rfl) (by kernel_rfl) (by kernel_rfl)) ?_
  intro W base args ds gs before hval0 hW hcnd _
  have hval : ∀ (j : Nat) t v, Try.f5.params[j]? = some t → args[j]? = some v → Value.okWide Try.prog W .any base t v := hval0
  have hW' := hW
  obtain ⟨p, q, hA0, hV, rfl, hfz, hnd⟩ := hW
  have hA : DataW.TrodAll enc Try.prog W 0 (fun _ => true) true Try.f5.params.toList args.toList ds p := hA0
  rw [Try.params5] at hA hval
  obtain ⟨v0, vs0, d0, ds0, p0, q0, hargs, rfl, rfl, h0, r0⟩ := trodAll_cons hA
  obtain ⟨rfl, rfl, rfl⟩ := trodAll_nil r0
  obtain rfl : args = #[v0] := by cases args; simp_all
  obtain ⟨rfl, rfl⟩ := trodVars_none hV
  have k0 := h0
  have lt0 : ∀ x ∈ p0, x.block < W.heap.size := by obtain ⟨m, hm⟩ := k0; exact DataW.trod_lt m _ _ _ hm
  obtain ⟨k_0, a_0, b_0, c_0, d_0, rfl, hk0, ha0, hb0, hc0, hd0⟩ := open_color (hval 0 25 v0 rfl rfl) h0
  clear hA0 hval0
  refine (FnNRGBANear_walk k_0 a_0 b_0 c_0 d_0 hk0.1 hk0.2 ha0.1 ha0.2 hb0.1 hb0.2 hc0.1 hc0.2 hd0.1 hd0.2 W).mono fun e W' ⟨he, bel⟩ => ?_
  subst he
  exact ⟨_, rfl, _, _, _, [], _, [], hW', trodAll_mk1 (shut_bool Try.underlying4 _), (trodAll_cons_mk (Below.trod laidOut (by kernel_rfl) (of_decide_eq_true (by kernel_rfl)) k0 bel lt0) trodAll_mk0), rfl, bel.frame _, fun h => by cases h⟩
theorem over : Rows.fnNRGBANearRow.holds Try.pinned (OpenSpec.ofChange Rows.fnNRGBANearSpec) :=
  OpenClaim.holds_of_wide 5 Try.f5 rfl rfl rfl rfl rfl rfl rfl ⟨rfl, rfl, rfl, rfl, rfl⟩ rfl rfl rfl rfl rfl (by kernel_rfl) Try.func5 (by kernel_rfl)
    (of_decide_eq_true (by kernel_rfl)) (by unfold Func.isWrapper; first | (rw [if_pos (by decide +kernel)]; kernel_rfl) | (rw [if_neg (by decide +kernel)]; exact ⟨rfl, rfl⟩))
    (fun os started H enc _ => lifted os started H enc)
end FnNRGBANearFrame
/-- THE STATEMENT. -/
theorem FnNRGBANear_holds : Rows.FnNRGBANearSaid := FnNRGBANearFrame.over
#print axioms FnNRGBANear_holds
end Go.Proofs.Ytkjcaiakcailnaa
