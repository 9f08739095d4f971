/- Gray of 16 bits is the luma of the JFIF specification, gray of 8 bits has the upper 8 bits of it: FnGrayLuma returns true for every color. No conditions. -/
import Derived.Test.YtmfjacbpcgcdjaaOpen
import Derived.Test.YtmfjacbpcgcdjaaConv
import Derived.Test.YtmfjacbpcgcdjaaValid
import Derived.Test.YtmfjacbpcgcdjaaHelp
import Derived.Test.YtmfjacbpcgcdjaaPlainLaws
import Derived.IntWalk
import Derived.Test.YtmfjacbpcgcdjaaPlainLaws2
import Derived.Test.YtmfjacbpcgcdjaaKeep
import Derived.Deep.RegionHeld3
import Derived.Lib.MinMax
import Derived.WalkLawsBesides
namespace Go.Proofs.Ytmfjacbpcgcdjaa
open Go.ChangeShapes Go.WideShapes Go.ChangeAt Go.RowKit Plain
set_option linter.unusedVariables false

set_option maxRecDepth 100000 in
set_option maxHeartbeats 4000000 in
theorem FnGrayLuma_walk (k a b c d : Int) (hk0 : -9223372036854775808 ≤ k) (hk1 : k ≤ 9223372036854775807) (ha0 : 0 ≤ a) (ha1 : a ≤ 65535) (hb0 : 0 ≤ b) (hb1 : b ≤ 65535) (hc0 : 0 ≤ c) (hc1 : c ≤ 65535) (hd0 : 0 ≤ d) (hd1 : d ≤ 65535) (w : World) :
    Calls Try.prog 13 #[.agg #[.int .i64 k, .int .u16 a, .int .u16 b, .int .u16 c, .int .u16 d]] w fun e w' => e = .returned (.bool true) ∧ Below w.heap.size w w' := by
  by_cases hv : valid k a b c d
  rotate_left
  · have V := Lib.hid (fun w => specValid_no k a b c d w ha0 ha1 hb0 hb1 hc0 hc1 hd0 hd1 hv)
    clear hv
    go_enter Try.func13, Try.ntmps13
    go_wp2_with fail
    refine (V.out _).mono ?_
    rintro e w1 ⟨rfl, b1⟩
    go_wp2_with fail
    go_ret
    exact ⟨rfl, by repeat (first | exact Below.refl _ _ | refine laterAlloc ?_ _ | refine Below.drew ?_ | refine below_drewN ?_ _ | refine later (by assumption) ?_)⟩
  have hf1 : ∀ (x0 x1 x2 x3 x4 : Value) (w : World), (Instr.field 25 (.agg #[x0, x1, x2, x3, x4]) 1).run Try.prog w = .ok (.agg #[x1, x2, x3, x4]) w := fun _ _ _ _ _ _ => by kernel_rfl
  have ix0uint16 : ∀ (x0 x1 x2 x3 : Value) (w : World), (Instr.index 23 (.agg #[x0, x1, x2, x3]) (.int .i64 0)).run Try.prog w = .ok x0 w := fun _ _ _ _ _ => by kernel_rfl
  obtain ⟨m0, m1, m2, m3, m4, m5, m6, m7⟩ := gray_near hv
  have rv := vals_range hv
  have V := Lib.hid (fun w => specValid_yes k a b c d w hv)
  go_enter Try.func13, Try.ntmps13
  go_wp2_with fail
  refine (V.out _).mono ?_
  rintro e w1 ⟨rfl, b1⟩
  obtain ⟨cc, cf⟩ := bcell b1
  have e0 : w1.cell? ⟨w.heap.size, 0, none⟩ = some (.int .i64 k) := cell_later b1 (by simp [go_sem])
  have e1 : w1.cell? ⟨w.heap.size, 1, none⟩ = some (.int .u16 a) := cell_later b1 (by simp [go_sem])
  have e2 : w1.cell? ⟨w.heap.size, 2, none⟩ = some (.int .u16 b) := cell_later b1 (by simp [go_sem])
  have e3 : w1.cell? ⟨w.heap.size, 3, none⟩ = some (.int .u16 c) := cell_later b1 (by simp [go_sem])
  have e4 : w1.cell? ⟨w.heap.size, 4, none⟩ = some (.int .u16 d) := cell_later b1 (by simp [go_sem])
  have B1 : Below w.heap.size w w1 := later b1 (laterAlloc (Below.refl _ _) _)
  have hz : w.heap.size < w1.heap.size := by have := b1.size; simp at this; omega
  clear cc cf b1 V
  go_wp2_with fail
  refine (implValues k a b c d _ hv).mono ?_
  rintro e w2 ⟨rfl, b2⟩
  have e0 : w2.cell? ⟨w.heap.size, 0, none⟩ = some (.int .i64 k) := cell_later b2 (by first | exact e0 | exact cellAlloc _ e0 | exact cellAlloc _ (cellAlloc _ e0) | simp [go_sem])
  have e1 : w2.cell? ⟨w.heap.size, 1, none⟩ = some (.int .u16 a) := cell_later b2 (by first | exact e1 | exact cellAlloc _ e1 | exact cellAlloc _ (cellAlloc _ e1) | simp [go_sem])
  have e2 : w2.cell? ⟨w.heap.size, 2, none⟩ = some (.int .u16 b) := cell_later b2 (by first | exact e2 | exact cellAlloc _ e2 | exact cellAlloc _ (cellAlloc _ e2) | simp [go_sem])
  have e3 : w2.cell? ⟨w.heap.size, 3, none⟩ = some (.int .u16 c) := cell_later b2 (by first | exact e3 | exact cellAlloc _ e3 | exact cellAlloc _ (cellAlloc _ e3) | simp [go_sem])
  have e4 : w2.cell? ⟨w.heap.size, 4, none⟩ = some (.int .u16 d) := cell_later b2 (by first | exact e4 | exact cellAlloc _ e4 | exact cellAlloc _ (cellAlloc _ e4) | simp [go_sem])
  have B2 : Below w.heap.size w w2 := later b2 B1
  have hz2 : w.heap.size < w2.heap.size := Nat.lt_of_lt_of_le hz b2.size
  clear b2
  go_wp2_with fail
  generalize hW : w2.alloc _ = W
  have B1 : Below w.heap.size w W := by subst hW; exact laterAlloc B2 _
  have e0 : W.cell? ⟨w.heap.size, 0, none⟩ = some (.int .i64 k) := by subst hW; exact cellAlloc _ e0
  have e1 : W.cell? ⟨w.heap.size, 1, none⟩ = some (.int .u16 a) := by subst hW; exact cellAlloc _ e1
  have e2 : W.cell? ⟨w.heap.size, 2, none⟩ = some (.int .u16 b) := by subst hW; exact cellAlloc _ e2
  have e3 : W.cell? ⟨w.heap.size, 3, none⟩ = some (.int .u16 c) := by subst hW; exact cellAlloc _ e3
  have e4 : W.cell? ⟨w.heap.size, 4, none⟩ = some (.int .u16 d) := by subst hW; exact cellAlloc _ e4
  clear hW B2 hz2 hz
  have w7 : IntKind.i64.wrap (cv0 7 k a b c d) = cv0 7 k a b c d := IntWalk.i64_in _ (by omega)
  have w6 : IntKind.i64.wrap (cv0 6 k a b c d) = cv0 6 k a b c d := IntWalk.i64_in _ (by omega)
  go_region_held3 (fun w' => Below w.heap.size w w' ∧ w'.cell? ⟨w.heap.size, 0, none⟩ = some (.int .i64 k) ∧ w'.cell? ⟨w.heap.size, 1, none⟩ = some (.int .u16 a) ∧ w'.cell? ⟨w.heap.size, 2, none⟩ = some (.int .u16 b) ∧ w'.cell? ⟨w.heap.size, 3, none⟩ = some (.int .u16 c) ∧ w'.cell? ⟨w.heap.size, 4, none⟩ = some (.int .u16 d))
    (first | exact ⟨B1.drew, e0, e1, e2, e3, e4⟩ | assumption | exact keep5 (by assumption) (by assumption))
    (first | (go_at_call 19; refine (implConvert _ k a b c d _ (by omega) hv).mono ?_; rintro e w' ⟨rfl, hb⟩))
  all_goals
    rename_i hH
    have B5 := hH.1
    clear hH w7 w6
    go_wp2_with fail
    refine (lawsWhite _).mono ?_
    rintro e w6 ⟨rfl, b6⟩
    go_wp2_with fail
    go_ret
    exact ⟨rfl, later b6 B5⟩
/-! ### The row's step, for FnGrayLuma. -/
namespace FnGrayLumaFrame
open Go.ChangeShapes Go.WideShapes Go.ChangeAt Go.RowKit
theorem own : ownKnob Try.prog.godebug = none := by kernel_rfl
theorem laidOut : laidOutB Try.prog = true := by kernel_rfl
set_option maxRecDepth 100000 in
theorem lifted (os : Os) (started : os.Started) (H : Type) (enc : TypeId × Value → H) :
    ReturnsInHanded {} Try.checked os 13 .any (Rows.fnGrayLumaSpec.pre6 enc Try.prog Try.f13 Rows.fnGrayLumaRow.domain false) (Rows.fnGrayLumaSpec.post enc Try.prog Try.f13 false true false false) := by
  refine returnsInHanded_of_change (C := Try.checked) own started (by kernel_rfl) Try.func13
    (ChangeSpec.witness6 (enc := enc) (C := Try.checked) false ⟨#[], #[.agg #[.int .i64 0, .int .u16 0, .int .u16 0, .int .u16 0, .int .u16 0]], []⟩ 8 (by kernel_rfl) (by kernel_rfl) (by kernel_rfl) (by kernel_rfl)) ?_
  intro W base args ds gs before hval0 hW hcnd _
  have hval : ∀ (j : Nat) t v, Try.f13.params[j]? = some t → args[j]? = some v → Value.okWide Try.prog W .any base t v := hval0
  have hW' := hW
  obtain ⟨p, q, hA0, hV, rfl, hfz, hnd⟩ := hW
  have hA : DataW.TrodAll enc Try.prog W 0 (fun _ => true) true Try.f13.params.toList args.toList ds p := hA0
  rw [Try.params13] at hA hval
  obtain ⟨v0, vs0, d0, ds0, p0, q0, hargs, rfl, rfl, h0, r0⟩ := trodAll_cons hA
  obtain ⟨rfl, rfl, rfl⟩ := trodAll_nil r0
  obtain rfl : args = #[v0] := by cases args; simp_all
  obtain ⟨rfl, rfl⟩ := trodVars_none hV
  have k0 := h0
  have lt0 : ∀ x ∈ p0, x.block < W.heap.size := by obtain ⟨m, hm⟩ := k0; exact DataW.trod_lt m _ _ _ hm
  obtain ⟨k_0, a_0, b_0, c_0, d_0, rfl, hk0, ha0, hb0, hc0, hd0⟩ := open_color (hval 0 25 v0 rfl rfl) h0
  clear hA0 hval0
  refine (FnGrayLuma_walk k_0 a_0 b_0 c_0 d_0 hk0.1 hk0.2 ha0.1 ha0.2 hb0.1 hb0.2 hc0.1 hc0.2 hd0.1 hd0.2 W).mono fun e W' ⟨he, bel⟩ => ?_
  subst he
  exact ⟨_, rfl, _, _, _, [], _, [], hW', trodAll_mk1 (shut_bool Try.underlying4 _), (trodAll_cons_mk (Below.trod laidOut (by kernel_rfl) (of_decide_eq_true (by kernel_rfl)) k0 bel lt0) trodAll_mk0), rfl, bel.frame _, fun h => by cases h⟩
theorem over : Rows.fnGrayLumaRow.holds Try.pinned (OpenSpec.ofChange Rows.fnGrayLumaSpec) :=
  OpenClaim.holds_of_wide 13 Try.f13 rfl rfl rfl rfl rfl rfl rfl ⟨rfl, rfl, rfl, rfl, rfl⟩ rfl rfl rfl rfl rfl (by kernel_rfl) Try.func13 (by kernel_rfl)
    (of_decide_eq_true (by kernel_rfl)) (by unfold Func.isWrapper; first | (rw [if_pos (by decide +kernel)]; kernel_rfl) | (rw [if_neg (by decide +kernel)]; exact ⟨rfl, rfl⟩))
    (fun os started H enc _ => lifted os started H enc)
end FnGrayLumaFrame
/-- THE STATEMENT. -/
theorem FnGrayLuma_holds : Rows.FnGrayLumaSaid := FnGrayLumaFrame.over
#print axioms FnGrayLuma_holds
end Go.Proofs.Ytmfjacbpcgcdjaa
