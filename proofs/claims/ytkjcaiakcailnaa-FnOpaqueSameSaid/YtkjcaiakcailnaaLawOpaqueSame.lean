/- Without transparency it makes no difference whether a color is alpha-premultiplied: FnOpaqueSame returns true for every color. No conditions. -/
import Derived.Test.YtkjcaiakcailnaaOpen
import Derived.Test.YtkjcaiakcailnaaConv
import Derived.Test.YtkjcaiakcailnaaValid
import Derived.Test.YtkjcaiakcailnaaHelp
import Derived.Test.YtkjcaiakcailnaaPlainLaws
import Derived.IntWalk
import Derived.Deep.DeepCutAuto
import Derived.Test.YtkjcaiakcailnaaPlainLaws2
import Derived.Test.YtkjcaiakcailnaaPlainLaws3
import Derived.Test.YtkjcaiakcailnaaKeep
import Derived.Test.YtkjcaiakcailnaaBoxP
import Derived.Deep.RegionHeld3
import Derived.Lib.MinMax
import Derived.WalkLawsBesides
namespace Go.Proofs.Ytkjcaiakcailnaa
open Go.ChangeShapes Go.WideShapes Go.ChangeAt Go.RowKit Plain
set_option linter.unusedVariables false

set_option maxRecDepth 100000 in
set_option maxHeartbeats 4000000 in
theorem FnOpaqueSame_walk (k a b c d : Int) (hk0 : -9223372036854775808 ≤ k) (hk1 : k ≤ 9223372036854775807) (ha0 : 0 ≤ a) (ha1 : a ≤ 65535) (hb0 : 0 ≤ b) (hb1 : b ≤ 65535) (hc0 : 0 ≤ c) (hc1 : c ≤ 65535) (hd0 : 0 ≤ d) (hd1 : d ≤ 65535) (w : World) :
    Calls Try.prog 7 #[.agg #[.int .i64 k, .int .u16 a, .int .u16 b, .int .u16 c, .int .u16 d]] w fun e w' => e = .returned (.bool true) ∧ Below w.heap.size w w' := by
  by_cases hv : valid k a b c d
  rotate_left
  · have V := Lib.hid (fun w => specValid_no k a b c d w ha0 ha1 hb0 hb1 hc0 hc1 hd0 hd1 hv)
    clear hv
    go_enter Try.func7, Try.ntmps7
    go_wp2_with fail
    refine (V.out _).mono ?_
    rintro e w1 ⟨rfl, b1⟩
    go_wp2_with fail
    go_ret
    exact ⟨rfl, by repeat (first | exact Below.refl _ _ | refine laterAlloc ?_ _ | refine Below.drew ?_ | refine below_drewN ?_ _ | refine later (by assumption) ?_)⟩
  have hf1 : ∀ (x0 x1 x2 x3 x4 : Value) (w : World), (Instr.field 25 (.agg #[x0, x1, x2, x3, x4]) 1).run Try.prog w = .ok (.agg #[x1, x2, x3, x4]) w := fun _ _ _ _ _ _ => by kernel_rfl
  have ix3uint16 : ∀ (x0 x1 x2 x3 : Value) (w : World), (Instr.index 23 (.agg #[x0, x1, x2, x3]) (.int .i64 3)).run Try.prog w = .ok x3 w := fun _ _ _ _ _ => by kernel_rfl
  have hq := eqArr4h
  have rv := vals_range hv
  obtain ⟨p0, p1, p2, p3⟩ := rgba64_keeps hv
  by_cases ho : vA k a b c d = 65535
  · obtain ⟨⟨s0, s1, s2, s3⟩, ⟨t0, t1, t2, t3⟩, t4⟩ := opaque_same hv ho
    have C3 := Lib.hid (fun w => implConvert 3 k a b c d w (by omega) hv)
    have C1 := Lib.hid (fun w => implConvert 1 k a b c d w (by omega) hv)
    have C2 := Lib.hid (fun w => implConvert 2 k a b c d w (by omega) hv)
    have C0 := Lib.hid (fun w => implConvert 0 k a b c d w (by omega) hv)
    rw [s0, s1, s2, s3] at C3
    rw [t0, t1, t2, t3] at C2
    rw [t4] at C2 C0
    have VV := Lib.hid (fun w => implValues k a b c d w hv)
    rw [ho] at VV
    clear s0 s1 s2 s3 t0 t1 t2 t3 t4 ho p0 p1 p2 p3 rv
    have V := Lib.hid (fun w => specValid_yes k a b c d w hv)
    go_enter Try.func7, Try.ntmps7
    go_wp2_with fail
    refine (V.out _).mono ?_
    rintro e w1 ⟨rfl, b1⟩
    obtain ⟨cc, cf⟩ := bcell b1
    have e0 : w1.cell? ⟨w.heap.size, 0, none⟩ = some (.int .i64 k) := cell_later b1 (by simp [go_sem])
    have e1 : w1.cell? ⟨w.heap.size, 1, none⟩ = some (.int .u16 a) := cell_later b1 (by simp [go_sem])
    have e2 : w1.cell? ⟨w.heap.size, 2, none⟩ = some (.int .u16 b) := cell_later b1 (by simp [go_sem])
    have e3 : w1.cell? ⟨w.heap.size, 3, none⟩ = some (.int .u16 c) := cell_later b1 (by simp [go_sem])
    have e4 : w1.cell? ⟨w.heap.size, 4, none⟩ = some (.int .u16 d) := cell_later b1 (by simp [go_sem])
    have B1 : Below w.heap.size w w1 := later b1 (laterAlloc (Below.refl _ _) _)
    have hz : w.heap.size < w1.heap.size := by have := b1.size; simp at this; omega
    clear cc cf b1 V
    go_wp2_with fail
    refine (VV.out _).mono ?_
    rintro e w2 ⟨rfl, b2⟩
    have e0 : w2.cell? ⟨w.heap.size, 0, none⟩ = some (.int .i64 k) := cell_later b2 (by first | exact e0 | exact cellAlloc _ e0 | exact cellAlloc _ (cellAlloc _ e0) | simp [go_sem])
    have e1 : w2.cell? ⟨w.heap.size, 1, none⟩ = some (.int .u16 a) := cell_later b2 (by first | exact e1 | exact cellAlloc _ e1 | exact cellAlloc _ (cellAlloc _ e1) | simp [go_sem])
    have e2 : w2.cell? ⟨w.heap.size, 2, none⟩ = some (.int .u16 b) := cell_later b2 (by first | exact e2 | exact cellAlloc _ e2 | exact cellAlloc _ (cellAlloc _ e2) | simp [go_sem])
    have e3 : w2.cell? ⟨w.heap.size, 3, none⟩ = some (.int .u16 c) := cell_later b2 (by first | exact e3 | exact cellAlloc _ e3 | exact cellAlloc _ (cellAlloc _ e3) | simp [go_sem])
    have e4 : w2.cell? ⟨w.heap.size, 4, none⟩ = some (.int .u16 d) := cell_later b2 (by first | exact e4 | exact cellAlloc _ e4 | exact cellAlloc _ (cellAlloc _ e4) | simp [go_sem])
    have B2 : Below w.heap.size w w2 := later b2 B1
    clear b2
    go_upto_region 6 with (fail)
    generalize hW : w2.alloc _ = W
    have B1 : Below w.heap.size w W := by subst hW; exact laterAlloc B2 _
    have e0 : W.cell? ⟨w.heap.size, 0, none⟩ = some (.int .i64 k) := by subst hW; exact cellAlloc _ e0
    have e1 : W.cell? ⟨w.heap.size, 1, none⟩ = some (.int .u16 a) := by subst hW; exact cellAlloc _ e1
    have e2 : W.cell? ⟨w.heap.size, 2, none⟩ = some (.int .u16 b) := by subst hW; exact cellAlloc _ e2
    have e3 : W.cell? ⟨w.heap.size, 3, none⟩ = some (.int .u16 c) := by subst hW; exact cellAlloc _ e3
    have e4 : W.cell? ⟨w.heap.size, 4, none⟩ = some (.int .u16 d) := by subst hW; exact cellAlloc _ e4
    clear hW B2 hz
    go_region_held3 (fun w' => Below w.heap.size w w' ∧ w'.cell? ⟨w.heap.size, 0, none⟩ = some (.int .i64 k) ∧ w'.cell? ⟨w.heap.size, 1, none⟩ = some (.int .u16 a) ∧ w'.cell? ⟨w.heap.size, 2, none⟩ = some (.int .u16 b) ∧ w'.cell? ⟨w.heap.size, 3, none⟩ = some (.int .u16 c) ∧ w'.cell? ⟨w.heap.size, 4, none⟩ = some (.int .u16 d))
      (first | exact ⟨B1.drew, e0, e1, e2, e3, e4⟩ | assumption | exact keep5 (by assumption) (by assumption))
      (first | (go_at_call_of 10 (Value.int IntKind.i64 3); refine (C3.out _).mono ?_; rintro e w' ⟨rfl, hb⟩) | (go_at_call_of 10 (Value.int IntKind.i64 2); refine (C2.out _).mono ?_; rintro e w' ⟨rfl, hb⟩) | (go_at_call_of 10 (Value.int IntKind.i64 1); refine (C1.out _).mono ?_; rintro e w' ⟨rfl, hb⟩) | (go_at_call_of 10 (Value.int IntKind.i64 0); refine (C0.out _).mono ?_; rintro e w' ⟨rfl, hb⟩))
    all_goals (rename_i hH; go_wp2; go_ret; exact ⟨rfl, hH.1⟩)
  have C1 := Lib.hid (fun w => implConvert 1 k a b c d w (by omega) hv)
  rw [p3] at C1
  have en : (vA k a b c d != 65535) = true := by rw [bne_iff_ne]; exact ho
  have wa : IntKind.u16.wrap (vA k a b c d) = vA k a b c d := IntWalk.u16_in _ (by omega)
  clear ho p0 p1 p2 p3
  have V := Lib.hid (fun w => specValid_yes k a b c d w hv)
  go_enter Try.func7, Try.ntmps7
  go_wp2_with fail
  refine (V.out _).mono ?_
  rintro e w1 ⟨rfl, b1⟩
  obtain ⟨cc, cf⟩ := bcell b1
  have e0 : w1.cell? ⟨w.heap.size, 0, none⟩ = some (.int .i64 k) := cell_later b1 (by simp [go_sem])
  have e1 : w1.cell? ⟨w.heap.size, 1, none⟩ = some (.int .u16 a) := cell_later b1 (by simp [go_sem])
  have e2 : w1.cell? ⟨w.heap.size, 2, none⟩ = some (.int .u16 b) := cell_later b1 (by simp [go_sem])
  have e3 : w1.cell? ⟨w.heap.size, 3, none⟩ = some (.int .u16 c) := cell_later b1 (by simp [go_sem])
  have e4 : w1.cell? ⟨w.heap.size, 4, none⟩ = some (.int .u16 d) := cell_later b1 (by simp [go_sem])
  have B1 : Below w.heap.size w w1 := later b1 (laterAlloc (Below.refl _ _) _)
  have hz : w.heap.size < w1.heap.size := by have := b1.size; simp at this; omega
  clear cc cf b1 V
  go_wp2_with fail
  refine (implValues k a b c d _ hv).mono ?_
  rintro e w2 ⟨rfl, b2⟩
  have e0 : w2.cell? ⟨w.heap.size, 0, none⟩ = some (.int .i64 k) := cell_later b2 (by first | exact e0 | exact cellAlloc _ e0 | exact cellAlloc _ (cellAlloc _ e0) | simp [go_sem])
  have e1 : w2.cell? ⟨w.heap.size, 1, none⟩ = some (.int .u16 a) := cell_later b2 (by first | exact e1 | exact cellAlloc _ e1 | exact cellAlloc _ (cellAlloc _ e1) | simp [go_sem])
  have e2 : w2.cell? ⟨w.heap.size, 2, none⟩ = some (.int .u16 b) := cell_later b2 (by first | exact e2 | exact cellAlloc _ e2 | exact cellAlloc _ (cellAlloc _ e2) | simp [go_sem])
  have e3 : w2.cell? ⟨w.heap.size, 3, none⟩ = some (.int .u16 c) := cell_later b2 (by first | exact e3 | exact cellAlloc _ e3 | exact cellAlloc _ (cellAlloc _ e3) | simp [go_sem])
  have e4 : w2.cell? ⟨w.heap.size, 4, none⟩ = some (.int .u16 d) := cell_later b2 (by first | exact e4 | exact cellAlloc _ e4 | exact cellAlloc _ (cellAlloc _ e4) | simp [go_sem])
  have B2 : Below w.heap.size w w2 := later b2 B1
  clear b2
  go_upto_region 5 with (fail)
  generalize hW : w2.alloc _ = W
  have B1 : Below w.heap.size w W := by subst hW; exact laterAlloc B2 _
  have e0 : W.cell? ⟨w.heap.size, 0, none⟩ = some (.int .i64 k) := by subst hW; exact cellAlloc _ e0
  have e1 : W.cell? ⟨w.heap.size, 1, none⟩ = some (.int .u16 a) := by subst hW; exact cellAlloc _ e1
  have e2 : W.cell? ⟨w.heap.size, 2, none⟩ = some (.int .u16 b) := by subst hW; exact cellAlloc _ e2
  have e3 : W.cell? ⟨w.heap.size, 3, none⟩ = some (.int .u16 c) := by subst hW; exact cellAlloc _ e3
  have e4 : W.cell? ⟨w.heap.size, 4, none⟩ = some (.int .u16 d) := by subst hW; exact cellAlloc _ e4
  have f3 : W.cell? ⟨w2.heap.size, 3, none⟩ = some (.int .u32 (vA k a b c d)) := by subst hW; simp [go_sem]
  clear hW B2 hz
  go_region_held3 (fun w' => Below w.heap.size w w' ∧ w'.cell? ⟨w.heap.size, 0, none⟩ = some (.int .i64 k) ∧ w'.cell? ⟨w.heap.size, 1, none⟩ = some (.int .u16 a) ∧ w'.cell? ⟨w.heap.size, 2, none⟩ = some (.int .u16 b) ∧ w'.cell? ⟨w.heap.size, 3, none⟩ = some (.int .u16 c) ∧ w'.cell? ⟨w.heap.size, 4, none⟩ = some (.int .u16 d) ∧ w'.cell? ⟨w2.heap.size, 3, none⟩ = some (.int .u32 (vA k a b c d)))
    (first | exact ⟨B1.drew, e0, e1, e2, e3, e4, f3⟩ | assumption | exact keep6 (by assumption) (by assumption))
    (first | (go_at_call 12; refine (lawsWhite _).mono ?_; rintro e w' ⟨rfl, hb⟩) | (go_at_call 10; refine (C1.out _).mono ?_; rintro e w' ⟨rfl, hb⟩))
  all_goals (rename_i hH; go_wp2; go_ret; exact ⟨rfl, hH.1⟩)
/-! ### The row's step, for FnOpaqueSame. -/
namespace FnOpaqueSameFrame
open Go.ChangeShapes Go.WideShapes Go.ChangeAt Go.RowKit
theorem own : ownKnob Try.prog.godebug = none := by kernel_rfl
theorem laidOut : laidOutB Try.prog = true := by kernel_rfl
set_option maxRecDepth 100000 in
theorem lifted (os : Os) (started : os.Started) (H : Type) (enc : TypeId × Value → H) :
    ReturnsInHanded {} Try.checked os 7 .any (Rows.fnOpaqueSameSpec.pre6 enc Try.prog Try.f7 Rows.fnOpaqueSameRow.domain false) (Rows.fnOpaqueSameSpec.post enc Try.prog Try.f7 false true false false) := by
  refine returnsInHanded_of_change (C := Try.checked) own started (by kernel_rfl) Try.func7
    (ChangeSpec.witness6 (enc := enc) (C := Try.checked) false ⟨#[], #[.agg #[.int .i64 0, .int .u16 0, .int .u16 0, .int .u16 0, .int .u16 0]], []⟩ 8 (by kernel_rfl) (by kernel_rfl) (by kernel_rfl) (by kernel_rfl)) ?_
  intro W base args ds gs before hval0 hW hcnd _
  have hval : ∀ (j : Nat) t v, Try.f7.params[j]? = some t → args[j]? = some v → Value.okWide Try.prog W .any base t v := hval0
  have hW' := hW
  obtain ⟨p, q, hA0, hV, rfl, hfz, hnd⟩ := hW
  have hA : DataW.TrodAll enc Try.prog W 0 (fun _ => true) true Try.f7.params.toList args.toList ds p := hA0
  rw [Try.params7] at hA hval
  obtain ⟨v0, vs0, d0, ds0, p0, q0, hargs, rfl, rfl, h0, r0⟩ := trodAll_cons hA
  obtain ⟨rfl, rfl, rfl⟩ := trodAll_nil r0
  obtain rfl : args = #[v0] := by cases args; simp_all
  obtain ⟨rfl, rfl⟩ := trodVars_none hV
  have k0 := h0
  have lt0 : ∀ x ∈ p0, x.block < W.heap.size := by obtain ⟨m, hm⟩ := k0; exact DataW.trod_lt m _ _ _ hm
  obtain ⟨k_0, a_0, b_0, c_0, d_0, rfl, hk0, ha0, hb0, hc0, hd0⟩ := open_color (hval 0 25 v0 rfl rfl) h0
  clear hA0 hval0
  refine (FnOpaqueSame_walk k_0 a_0 b_0 c_0 d_0 hk0.1 hk0.2 ha0.1 ha0.2 hb0.1 hb0.2 hc0.1 hc0.2 hd0.1 hd0.2 W).mono fun e W' ⟨he, bel⟩ => ?_
  subst he
  exact ⟨_, rfl, _, _, _, [], _, [], hW', trodAll_mk1 (shut_bool Try.underlying4 _), (trodAll_cons_mk (Below.trod laidOut (by kernel_rfl) (of_decide_eq_true (by kernel_rfl)) k0 bel lt0) trodAll_mk0), rfl, bel.frame _, fun h => by cases h⟩
theorem over : Rows.fnOpaqueSameRow.holds Try.pinned (OpenSpec.ofChange Rows.fnOpaqueSameSpec) :=
  OpenClaim.holds_of_wide 7 Try.f7 rfl rfl rfl rfl rfl rfl rfl ⟨rfl, rfl, rfl, rfl, rfl⟩ rfl rfl rfl rfl rfl (by kernel_rfl) Try.func7 (by kernel_rfl)
    (of_decide_eq_true (by kernel_rfl)) (by unfold Func.isWrapper; first | (rw [if_pos (by decide +kernel)]; kernel_rfl) | (rw [if_neg (by decide +kernel)]; exact ⟨rfl, rfl⟩))
    (fun os started H enc _ => lifted os started H enc)
end FnOpaqueSameFrame
/-- THE STATEMENT. -/
theorem FnOpaqueSame_holds : Rows.FnOpaqueSameSaid := FnOpaqueSameFrame.over
#print axioms FnOpaqueSame_holds
end Go.Proofs.Ytkjcaiakcailnaa
