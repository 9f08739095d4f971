/- What a model has converted it leaves as it is: FnModelTwice returns true for every number and every color. No conditions. -/
import Derived.Test.YtmfjacbpcgcdjaaOpen
import Derived.Test.YtmfjacbpcgcdjaaConv
import Derived.Test.YtmfjacbpcgcdjaaValid
import Derived.Test.YtmfjacbpcgcdjaaHelp
import Derived.Test.YtmfjacbpcgcdjaaPlainLaws
import Derived.IntWalk
import Derived.Test.YtmfjacbpcgcdjaaPlainLaws2
import Derived.Test.YtmfjacbpcgcdjaaKeep
import Derived.Deep.RegionHeld3
import Derived.Lib.MinMax
import Derived.WalkLawsBesides
namespace Go.Proofs.Ytmfjacbpcgcdjaa
open Go.ChangeShapes Go.WideShapes Go.ChangeAt Go.RowKit Plain
set_option linter.unusedVariables false

set_option maxRecDepth 100000 in
set_option maxHeartbeats 4000000 in
theorem FnModelTwice_walk (m : Int) (k a b c d : Int) (hm0 : -9223372036854775808 ≤ m) (hm1 : m ≤ 9223372036854775807) (hk0 : -9223372036854775808 ≤ k) (hk1 : k ≤ 9223372036854775807) (ha0 : 0 ≤ a) (ha1 : a ≤ 65535) (hb0 : 0 ≤ b) (hb1 : b ≤ 65535) (hc0 : 0 ≤ c) (hc1 : c ≤ 65535) (hd0 : 0 ≤ d) (hd1 : d ≤ 65535) (w : World) :
    Calls Try.prog 10 #[.int .i64 m, .agg #[.int .i64 k, .int .u16 a, .int .u16 b, .int .u16 c, .int .u16 d]] w fun e w' => e = .returned (.bool true) ∧ Below w.heap.size w w' := by
  have hf0 : ∀ (x0 x1 x2 x3 x4 : Value) (w : World), (Instr.field 25 (.agg #[x0, x1, x2, x3, x4]) 0).run Try.prog w = .ok x0 w := fun _ _ _ _ _ _ => by kernel_rfl
  have hq := eqColor
  by_cases hm : 0 ≤ m ∧ m < 11
  rotate_left
  · have M := Lib.hid (fun w => lawsIsModel_no m w (by omega))
    clear hm
    go_enter Try.func10, Try.ntmps10
    go_wp2_with fail
    refine (M.out _).mono ?_
    rintro e w' ⟨rfl, rfl⟩
    go_wp2_with fail
    go_ret
    exact ⟨rfl, by repeat (first | exact Below.refl _ _ | refine laterAlloc ?_ _ | refine Below.drew ?_ | refine below_drewN ?_ _ | refine later (by assumption) ?_)⟩
  have M := Lib.hid (fun w => lawsIsModel_yes m w hm.1 hm.2)
  have hm' : m = 0 ∨ m = 1 ∨ m = 2 ∨ m = 3 ∨ m = 4 ∨ m = 5 ∨ m = 6 ∨ m = 7 ∨ m = 8 ∨ m = 9 ∨ m = 10 := by omega
  have HM := Lib.hid hm'
  clear hm hm'
  by_cases hv : valid k a b c d
  rotate_left
  · have V := Lib.hid (fun w => specValid_no k a b c d w ha0 ha1 hb0 hb1 hc0 hc1 hd0 hd1 hv)
    clear hv
    go_enter Try.func10, Try.ntmps10
    go_wp2_with fail
    refine (M.out _).mono ?_
    rintro e w' ⟨rfl, rfl⟩
    go_wp2_with fail
    refine (V.out _).mono ?_
    rintro e w1 ⟨rfl, b1⟩
    go_wp2_with fail
    go_ret
    exact ⟨rfl, by repeat (first | exact Below.refl _ _ | refine laterAlloc ?_ _ | refine Below.drew ?_ | refine below_drewN ?_ _ | refine later (by assumption) ?_)⟩
  have hcv : valid m (cv0 m k a b c d) (cv1 m k a b c d) (cv2 m k a b c d) (cv3 m k a b c d) := cv_valid HM.out hv
  have V := Lib.hid (fun w => specValid_yes k a b c d w hv)
  go_enter Try.func10, Try.ntmps10
  go_wp2_with fail
  refine (M.out _).mono ?_
  rintro e w' ⟨rfl, rfl⟩
  go_wp2_with fail
  refine (V.out _).mono ?_
  rintro e w1 ⟨rfl, b1⟩
  have e0 : w1.cell? ⟨w.heap.size, 0, none⟩ = some (.int .i64 k) := cell_later b1 (by first | exact e0 | exact cellAlloc _ e0 | exact cellAlloc _ (cellAlloc _ e0) | simp [go_sem])
  have e1 : w1.cell? ⟨w.heap.size, 1, none⟩ = some (.int .u16 a) := cell_later b1 (by first | exact e1 | exact cellAlloc _ e1 | exact cellAlloc _ (cellAlloc _ e1) | simp [go_sem])
  have e2 : w1.cell? ⟨w.heap.size, 2, none⟩ = some (.int .u16 b) := cell_later b1 (by first | exact e2 | exact cellAlloc _ e2 | exact cellAlloc _ (cellAlloc _ e2) | simp [go_sem])
  have e3 : w1.cell? ⟨w.heap.size, 3, none⟩ = some (.int .u16 c) := cell_later b1 (by first | exact e3 | exact cellAlloc _ e3 | exact cellAlloc _ (cellAlloc _ e3) | simp [go_sem])
  have e4 : w1.cell? ⟨w.heap.size, 4, none⟩ = some (.int .u16 d) := cell_later b1 (by first | exact e4 | exact cellAlloc _ e4 | exact cellAlloc _ (cellAlloc _ e4) | simp [go_sem])
  have B1 : Below w.heap.size w w1 := later b1 (laterAlloc (Below.refl _ _) _)
  have hz : w.heap.size < w1.heap.size := by have := b1.size; simp at this; omega
  clear b1 V M
  have hcp := hcv.1
  go_wp2_with fail
  refine (implConvert m k a b c d _ HM.out hv).mono ?_
  rintro e w2 ⟨rfl, b2⟩
  have e0 : w2.cell? ⟨w.heap.size, 0, none⟩ = some (.int .i64 k) := cell_later b2 (by first | exact e0 | exact cellAlloc _ e0 | exact cellAlloc _ (cellAlloc _ e0) | simp [go_sem])
  have e1 : w2.cell? ⟨w.heap.size, 1, none⟩ = some (.int .u16 a) := cell_later b2 (by first | exact e1 | exact cellAlloc _ e1 | exact cellAlloc _ (cellAlloc _ e1) | simp [go_sem])
  have e2 : w2.cell? ⟨w.heap.size, 2, none⟩ = some (.int .u16 b) := cell_later b2 (by first | exact e2 | exact cellAlloc _ e2 | exact cellAlloc _ (cellAlloc _ e2) | simp [go_sem])
  have e3 : w2.cell? ⟨w.heap.size, 3, none⟩ = some (.int .u16 c) := cell_later b2 (by first | exact e3 | exact cellAlloc _ e3 | exact cellAlloc _ (cellAlloc _ e3) | simp [go_sem])
  have e4 : w2.cell? ⟨w.heap.size, 4, none⟩ = some (.int .u16 d) := cell_later b2 (by first | exact e4 | exact cellAlloc _ e4 | exact cellAlloc _ (cellAlloc _ e4) | simp [go_sem])
  have B2 : Below w.heap.size w w2 := later b2 B1
  have hz2 : w.heap.size < w2.heap.size := Nat.lt_of_lt_of_le hz b2.size
  clear b2
  go_wp2_with fail
  generalize hW : w2.alloc _ = W
  have B3 : Below w.heap.size w W := by subst hW; exact laterAlloc B2 _
  have e0 : W.cell? ⟨w.heap.size, 0, none⟩ = some (.int .i64 k) := by subst hW; exact cellAlloc _ e0
  have e1 : W.cell? ⟨w.heap.size, 1, none⟩ = some (.int .u16 a) := by subst hW; exact cellAlloc _ e1
  have e2 : W.cell? ⟨w.heap.size, 2, none⟩ = some (.int .u16 b) := by subst hW; exact cellAlloc _ e2
  have e3 : W.cell? ⟨w.heap.size, 3, none⟩ = some (.int .u16 c) := by subst hW; exact cellAlloc _ e3
  have e4 : W.cell? ⟨w.heap.size, 4, none⟩ = some (.int .u16 d) := by subst hW; exact cellAlloc _ e4
  have d0 : W.cell? ⟨w2.heap.size, 0, none⟩ = some (.int .i64 m) := by subst hW; simp [go_sem]
  have d1 : W.cell? ⟨w2.heap.size, 1, none⟩ = some (.int .u16 (cv0 m k a b c d)) := by subst hW; simp [go_sem]
  have d2 : W.cell? ⟨w2.heap.size, 2, none⟩ = some (.int .u16 (cv1 m k a b c d)) := by subst hW; simp [go_sem]
  have d3 : W.cell? ⟨w2.heap.size, 3, none⟩ = some (.int .u16 (cv2 m k a b c d)) := by subst hW; simp [go_sem]
  have d4 : W.cell? ⟨w2.heap.size, 4, none⟩ = some (.int .u16 (cv3 m k a b c d)) := by subst hW; simp [go_sem]
  clear hW B2 B1 hz2 hz
  go_region_held3 (fun w' => Below w.heap.size w w' ∧ w'.cell? ⟨w.heap.size, 0, none⟩ = some (.int .i64 k) ∧ w'.cell? ⟨w.heap.size, 1, none⟩ = some (.int .u16 a) ∧ w'.cell? ⟨w.heap.size, 2, none⟩ = some (.int .u16 b) ∧ w'.cell? ⟨w.heap.size, 3, none⟩ = some (.int .u16 c) ∧ w'.cell? ⟨w.heap.size, 4, none⟩ = some (.int .u16 d) ∧ w'.cell? ⟨w2.heap.size, 0, none⟩ = some (.int .i64 m) ∧ w'.cell? ⟨w2.heap.size, 1, none⟩ = some (.int .u16 (cv0 m k a b c d)) ∧ w'.cell? ⟨w2.heap.size, 2, none⟩ = some (.int .u16 (cv1 m k a b c d)) ∧ w'.cell? ⟨w2.heap.size, 3, none⟩ = some (.int .u16 (cv2 m k a b c d)) ∧ w'.cell? ⟨w2.heap.size, 4, none⟩ = some (.int .u16 (cv3 m k a b c d)))
    (first | exact ⟨B3.drew, e0, e1, e2, e3, e4, d0, d1, d2, d3, d4⟩ | assumption | exact keep10 (by assumption) (by assumption))
    (first | (go_at_call 19; (with_reducible refine (implConvertOwn m (cv0 m k a b c d) (cv1 m k a b c d) (cv2 m k a b c d) (cv3 m k a b c d) _ hcp).mono ?_); rintro e w' ⟨rfl, hb⟩) | (go_at_call 19; (with_reducible refine (implConvert 7 k a b c d _ (by omega) hv).mono ?_); rintro e w' ⟨rfl, hb⟩))
  go_wp2
  go_ret
  rename_i hH
  exact ⟨rfl, hH.1⟩
/-! ### The row's step, for FnModelTwice. -/
namespace FnModelTwiceFrame
open Go.ChangeShapes Go.WideShapes Go.ChangeAt Go.RowKit
theorem own : ownKnob Try.prog.godebug = none := by kernel_rfl
theorem laidOut : laidOutB Try.prog = true := by kernel_rfl
set_option maxRecDepth 100000 in
theorem lifted (os : Os) (started : os.Started) (H : Type) (enc : TypeId × Value → H) :
    ReturnsInHanded {} Try.checked os 10 .any (Rows.fnModelTwiceSpec.pre6 enc Try.prog Try.f10 Rows.fnModelTwiceRow.domain false) (Rows.fnModelTwiceSpec.post enc Try.prog Try.f10 false true false false) := by
  refine returnsInHanded_of_change (C := Try.checked) own started (by kernel_rfl) Try.func10
    (ChangeSpec.witness6 (enc := enc) (C := Try.checked) false ⟨#[], #[.int .i64 0, .agg #[.int .i64 0, .int .u16 0, .int .u16 0, .int .u16 0, .int .u16 0]], []⟩ 8 (by kernel_rfl) (by kernel_rfl) (by kernel_rfl) (by kernel_rfl)) ?_
  intro W base args ds gs before hval0 hW hcnd _
  have hval : ∀ (j : Nat) t v, Try.f10.params[j]? = some t → args[j]? = some v → Value.okWide Try.prog W .any base t v := hval0
  have hW' := hW
  obtain ⟨p, q, hA0, hV, rfl, hfz, hnd⟩ := hW
  have hA : DataW.TrodAll enc Try.prog W 0 (fun _ => true) true Try.f10.params.toList args.toList ds p := hA0
  rw [Try.params10] at hA hval
  obtain ⟨v0, vs0, d0, ds0, p0, q0, hargs, rfl, rfl, h0, r0⟩ := trodAll_cons hA
  obtain ⟨v1, vs1, d1, ds1, p1, q1, rfl, rfl, rfl, h1, r1⟩ := trodAll_cons r0
  obtain ⟨rfl, rfl, rfl⟩ := trodAll_nil r1
  obtain rfl : args = #[v0, v1] := by cases args; simp_all
  obtain ⟨rfl, rfl⟩ := trodVars_none hV
  obtain ⟨a0, rfl, rfl, rfl, w0⟩ := open_int Try.underlying3 (hval 0 3 v0 rfl rfl) h0
  have b0 := bounds_i64 w0
  have k1 := h1
  have lt1 : ∀ x ∈ p1, x.block < W.heap.size := by obtain ⟨m, hm⟩ := k1; exact DataW.trod_lt m _ _ _ hm
  obtain ⟨k_1, a_1, b_1, c_1, d_1, rfl, hk1, ha1, hb1, hc1, hd1⟩ := open_color (hval 1 25 v1 rfl rfl) h1
  clear hA0 hval0
  refine (FnModelTwice_walk a0 k_1 a_1 b_1 c_1 d_1 b0.1 b0.2 hk1.1 hk1.2 ha1.1 ha1.2 hb1.1 hb1.2 hc1.1 hc1.2 hd1.1 hd1.2 W).mono fun e W' ⟨he, bel⟩ => ?_
  subst he
  exact ⟨_, rfl, _, _, _, [], _, [], hW', trodAll_mk1 (shut_bool Try.underlying4 _), (trodAll_cons_mk (shut_int Try.underlying3 w0) (trodAll_cons_mk (Below.trod laidOut (by kernel_rfl) (of_decide_eq_true (by kernel_rfl)) k1 bel lt1) trodAll_mk0)), rfl, bel.frame _, fun h => by cases h⟩
theorem over : Rows.fnModelTwiceRow.holds Try.pinned (OpenSpec.ofChange Rows.fnModelTwiceSpec) :=
  OpenClaim.holds_of_wide 10 Try.f10 rfl rfl rfl rfl rfl rfl rfl ⟨rfl, rfl, rfl, rfl, rfl⟩ rfl rfl rfl rfl rfl (by kernel_rfl) Try.func10 (by kernel_rfl)
    (of_decide_eq_true (by kernel_rfl)) (by unfold Func.isWrapper; first | (rw [if_pos (by decide +kernel)]; kernel_rfl) | (rw [if_neg (by decide +kernel)]; exact ⟨rfl, rfl⟩))
    (fun os started H enc _ => lifted os started H enc)
end FnModelTwiceFrame
/-- THE STATEMENT. -/
theorem FnModelTwice_holds : Rows.FnModelTwiceSaid := FnModelTwiceFrame.over
#print axioms FnModelTwice_holds
end Go.Proofs.Ytmfjacbpcgcdjaa
