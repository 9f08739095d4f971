/- Alpha of 16 bits is kept, alpha of 8 bits is less than one step from it: FnAlphaKeeps returns true for every color. No conditions. -/
import Derived.Test.YtmfjacbpcgcdjaaOpen
import Derived.Test.YtmfjacbpcgcdjaaConv
import Derived.Test.YtmfjacbpcgcdjaaValid
import Derived.Test.YtmfjacbpcgcdjaaHelp
import Derived.Test.YtmfjacbpcgcdjaaPlainLaws
import Derived.IntWalk
import Derived.Test.YtmfjacbpcgcdjaaPlainLaws2
import Derived.Test.YtmfjacbpcgcdjaaKeep
import Derived.Deep.RegionHeld3
import Derived.Lib.MinMax
import Derived.WalkLawsBesides
namespace Go.Proofs.Ytmfjacbpcgcdjaa
open Go.ChangeShapes Go.WideShapes Go.ChangeAt Go.RowKit Plain
set_option linter.unusedVariables false

set_option maxRecDepth 100000 in
set_option maxHeartbeats 4000000 in
theorem FnAlphaKeeps_walk (k a b c d : Int) (hk0 : -9223372036854775808 ≤ k) (hk1 : k ≤ 9223372036854775807) (ha0 : 0 ≤ a) (ha1 : a ≤ 65535) (hb0 : 0 ≤ b) (hb1 : b ≤ 65535) (hc0 : 0 ≤ c) (hc1 : c ≤ 65535) (hd0 : 0 ≤ d) (hd1 : d ≤ 65535) (w : World) :
    Calls Try.prog 11 #[.agg #[.int .i64 k, .int .u16 a, .int .u16 b, .int .u16 c, .int .u16 d]] w fun e w' => e = .returned (.bool true) ∧ Below w.heap.size w w' := by
  by_cases hv : valid k a b c d
  rotate_left
  · have V := Lib.hid (fun w => specValid_no k a b c d w ha0 ha1 hb0 hb1 hc0 hc1 hd0 hd1 hv)
    clear hv
    go_enter Try.func11, Try.ntmps11
    go_wp2_with fail
    refine (V.out _).mono ?_
    rintro e w1 ⟨rfl, b1⟩
    go_wp2_with fail
    go_ret
    exact ⟨rfl, by repeat (first | exact Below.refl _ _ | refine laterAlloc ?_ _ | refine Below.drew ?_ | refine below_drewN ?_ _ | refine later (by assumption) ?_)⟩
  have hf1 : ∀ (x0 x1 x2 x3 x4 : Value) (w : World), (Instr.field 25 (.agg #[x0, x1, x2, x3, x4]) 1).run Try.prog w = .ok (.agg #[x1, x2, x3, x4]) w := fun _ _ _ _ _ _ => by kernel_rfl
  have ix0uint16 : ∀ (x0 x1 x2 x3 : Value) (w : World), (Instr.index 23 (.agg #[x0, x1, x2, x3]) (.int .i64 0)).run Try.prog w = .ok x0 w := fun _ _ _ _ _ => by kernel_rfl
  have ix3uint32 : ∀ (x0 x1 x2 x3 : Value) (w : World), (Instr.index 30 (.agg #[x0, x1, x2, x3]) (.int .i64 3)).run Try.prog w = .ok x3 w := fun _ _ _ _ _ => by kernel_rfl
  obtain ⟨m0, m1, m2, m3⟩ := alpha_keeps hv
  have rv := vals_range hv
  have CA := Lib.hid (fun w => implConvert 5 k a b c d w (by omega) hv)
  rw [m0] at CA
  clear m0
  have V := Lib.hid (fun w => specValid_yes k a b c d w hv)
  go_enter Try.func11, Try.ntmps11
  go_wp2_with fail
  refine (V.out _).mono ?_
  rintro e w1 ⟨rfl, b1⟩
  obtain ⟨cc, cf⟩ := bcell b1
  have e0 : w1.cell? ⟨w.heap.size, 0, none⟩ = some (.int .i64 k) := cell_later b1 (by simp [go_sem])
  have e1 : w1.cell? ⟨w.heap.size, 1, none⟩ = some (.int .u16 a) := cell_later b1 (by simp [go_sem])
  have e2 : w1.cell? ⟨w.heap.size, 2, none⟩ = some (.int .u16 b) := cell_later b1 (by simp [go_sem])
  have e3 : w1.cell? ⟨w.heap.size, 3, none⟩ = some (.int .u16 c) := cell_later b1 (by simp [go_sem])
  have e4 : w1.cell? ⟨w.heap.size, 4, none⟩ = some (.int .u16 d) := cell_later b1 (by simp [go_sem])
  have B1 : Below w.heap.size w w1 := later b1 (laterAlloc (Below.refl _ _) _)
  have hz : w.heap.size < w1.heap.size := by have := b1.size; simp at this; omega
  clear cc cf b1 V
  go_wp2_with fail
  refine (implValues k a b c d _ hv).mono ?_
  rintro e w2 ⟨rfl, b2⟩
  have e0 : w2.cell? ⟨w.heap.size, 0, none⟩ = some (.int .i64 k) := cell_later b2 (by first | exact e0 | exact cellAlloc _ e0 | exact cellAlloc _ (cellAlloc _ e0) | simp [go_sem])
  have e1 : w2.cell? ⟨w.heap.size, 1, none⟩ = some (.int .u16 a) := cell_later b2 (by first | exact e1 | exact cellAlloc _ e1 | exact cellAlloc _ (cellAlloc _ e1) | simp [go_sem])
  have e2 : w2.cell? ⟨w.heap.size, 2, none⟩ = some (.int .u16 b) := cell_later b2 (by first | exact e2 | exact cellAlloc _ e2 | exact cellAlloc _ (cellAlloc _ e2) | simp [go_sem])
  have e3 : w2.cell? ⟨w.heap.size, 3, none⟩ = some (.int .u16 c) := cell_later b2 (by first | exact e3 | exact cellAlloc _ e3 | exact cellAlloc _ (cellAlloc _ e3) | simp [go_sem])
  have e4 : w2.cell? ⟨w.heap.size, 4, none⟩ = some (.int .u16 d) := cell_later b2 (by first | exact e4 | exact cellAlloc _ e4 | exact cellAlloc _ (cellAlloc _ e4) | simp [go_sem])
  have B2 : Below w.heap.size w w2 := later b2 B1
  clear b2
  go_wp2_with fail
  refine (implConvert 4 k a b c d _ (by omega) hv).mono ?_
  rintro e w3 ⟨rfl, b3⟩
  have e0 : w3.cell? ⟨w.heap.size, 0, none⟩ = some (.int .i64 k) := cell_later b3 (by first | exact e0 | exact cellAlloc _ e0 | exact cellAlloc _ (cellAlloc _ e0) | simp [go_sem])
  have e1 : w3.cell? ⟨w.heap.size, 1, none⟩ = some (.int .u16 a) := cell_later b3 (by first | exact e1 | exact cellAlloc _ e1 | exact cellAlloc _ (cellAlloc _ e1) | simp [go_sem])
  have e2 : w3.cell? ⟨w.heap.size, 2, none⟩ = some (.int .u16 b) := cell_later b3 (by first | exact e2 | exact cellAlloc _ e2 | exact cellAlloc _ (cellAlloc _ e2) | simp [go_sem])
  have e3 : w3.cell? ⟨w.heap.size, 3, none⟩ = some (.int .u16 c) := cell_later b3 (by first | exact e3 | exact cellAlloc _ e3 | exact cellAlloc _ (cellAlloc _ e3) | simp [go_sem])
  have e4 : w3.cell? ⟨w.heap.size, 4, none⟩ = some (.int .u16 d) := cell_later b3 (by first | exact e4 | exact cellAlloc _ e4 | exact cellAlloc _ (cellAlloc _ e4) | simp [go_sem])
  have B3 : Below w.heap.size w w3 := later b3 B2
  clear b3
  go_wp2_with fail
  refine (lawsWhite _).mono ?_
  rintro e w4 ⟨rfl, b4⟩
  have e0 : w4.cell? ⟨w.heap.size, 0, none⟩ = some (.int .i64 k) := cell_later b4 (by first | exact e0 | exact cellAlloc _ e0 | exact cellAlloc _ (cellAlloc _ e0) | simp [go_sem])
  have e1 : w4.cell? ⟨w.heap.size, 1, none⟩ = some (.int .u16 a) := cell_later b4 (by first | exact e1 | exact cellAlloc _ e1 | exact cellAlloc _ (cellAlloc _ e1) | simp [go_sem])
  have e2 : w4.cell? ⟨w.heap.size, 2, none⟩ = some (.int .u16 b) := cell_later b4 (by first | exact e2 | exact cellAlloc _ e2 | exact cellAlloc _ (cellAlloc _ e2) | simp [go_sem])
  have e3 : w4.cell? ⟨w.heap.size, 3, none⟩ = some (.int .u16 c) := cell_later b4 (by first | exact e3 | exact cellAlloc _ e3 | exact cellAlloc _ (cellAlloc _ e3) | simp [go_sem])
  have e4 : w4.cell? ⟨w.heap.size, 4, none⟩ = some (.int .u16 d) := cell_later b4 (by first | exact e4 | exact cellAlloc _ e4 | exact cellAlloc _ (cellAlloc _ e4) | simp [go_sem])
  have B4 : Below w.heap.size w w4 := later b4 B3
  clear b4
  go_wp2_with fail
  refine (CA.out _).mono ?_
  rintro e w5 ⟨rfl, b5⟩
  have B5 : Below w.heap.size w w5 := later b5 B4
  clear b5
  go_wp2_with fail
  refine (specApart _ _ _ (by omega) (by omega) (by omega) (by omega)).mono ?_
  rintro e w' ⟨rfl, rfl⟩
  go_wp2_with fail
  go_ret
  exact ⟨by simp, B5⟩
/-! ### The row's step, for FnAlphaKeeps. -/
namespace FnAlphaKeepsFrame
open Go.ChangeShapes Go.WideShapes Go.ChangeAt Go.RowKit
theorem own : ownKnob Try.prog.godebug = none := by kernel_rfl
theorem laidOut : laidOutB Try.prog = true := by kernel_rfl
set_option maxRecDepth 100000 in
theorem lifted (os : Os) (started : os.Started) (H : Type) (enc : TypeId × Value → H) :
    ReturnsInHanded {} Try.checked os 11 .any (Rows.fnAlphaKeepsSpec.pre6 enc Try.prog Try.f11 Rows.fnAlphaKeepsRow.domain false) (Rows.fnAlphaKeepsSpec.post enc Try.prog Try.f11 false true false false) := by
  refine returnsInHanded_of_change (C := Try.checked) own started (by kernel_rfl) Try.func11
    (ChangeSpec.witness6 (enc := enc) (C := Try.checked) false ⟨#[], #[.agg #[.int .i64 0, .int .u16 0, .int .u16 0, .int .u16 0, .int .u16 0]], []⟩ 8 (by kernel_rfl) (by kernel_rfl) (by kernel_rfl) (by kernel_rfl)) ?_
  intro W base args ds gs before hval0 hW hcnd _
  have hval : ∀ (j : Nat) t v, Try.f11.params[j]? = some t → args[j]? = some v → Value.okWide Try.prog W .any base t v := hval0
  have hW' := hW
  obtain ⟨p, q, hA0, hV, rfl, hfz, hnd⟩ := hW
  have hA : DataW.TrodAll enc Try.prog W 0 (fun _ => true) true Try.f11.params.toList args.toList ds p := hA0
  rw [Try.params11] at hA hval
  obtain ⟨v0, vs0, d0, ds0, p0, q0, hargs, rfl, rfl, h0, r0⟩ := trodAll_cons hA
  obtain ⟨rfl, rfl, rfl⟩ := trodAll_nil r0
  obtain rfl : args = #[v0] := by cases args; simp_all
  obtain ⟨rfl, rfl⟩ := trodVars_none hV
  have k0 := h0
  have lt0 : ∀ x ∈ p0, x.block < W.heap.size := by obtain ⟨m, hm⟩ := k0; exact DataW.trod_lt m _ _ _ hm
  obtain ⟨k_0, a_0, b_0, c_0, d_0, rfl, hk0, ha0, hb0, hc0, hd0⟩ := open_color (hval 0 25 v0 rfl rfl) h0
  clear hA0 hval0
  refine (FnAlphaKeeps_walk k_0 a_0 b_0 c_0 d_0 hk0.1 hk0.2 ha0.1 ha0.2 hb0.1 hb0.2 hc0.1 hc0.2 hd0.1 hd0.2 W).mono fun e W' ⟨he, bel⟩ => ?_
  subst he
  exact ⟨_, rfl, _, _, _, [], _, [], hW', trodAll_mk1 (shut_bool Try.underlying4 _), (trodAll_cons_mk (Below.trod laidOut (by kernel_rfl) (of_decide_eq_true (by kernel_rfl)) k0 bel lt0) trodAll_mk0), rfl, bel.frame _, fun h => by cases h⟩
theorem over : Rows.fnAlphaKeepsRow.holds Try.pinned (OpenSpec.ofChange Rows.fnAlphaKeepsSpec) :=
  OpenClaim.holds_of_wide 11 Try.f11 rfl rfl rfl rfl rfl rfl rfl ⟨rfl, rfl, rfl, rfl, rfl⟩ rfl rfl rfl rfl rfl (by kernel_rfl) Try.func11 (by kernel_rfl)
    (of_decide_eq_true (by kernel_rfl)) (by unfold Func.isWrapper; first | (rw [if_pos (by decide +kernel)]; kernel_rfl) | (rw [if_neg (by decide +kernel)]; exact ⟨rfl, rfl⟩))
    (fun os started H enc _ => lifted os started H enc)
end FnAlphaKeepsFrame
/-- THE STATEMENT. -/
theorem FnAlphaKeeps_holds : Rows.FnAlphaKeepsSaid := FnAlphaKeepsFrame.over
#print axioms FnAlphaKeeps_holds
end Go.Proofs.Ytmfjacbpcgcdjaa
