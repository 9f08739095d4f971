/- More ink does not give more light: FnCMYKMonotone returns true for every five bytes. No conditions. -/
import Derived.Test.YtogbagjgagbnkaaCmyk
import Derived.Test.YtogbagjgagbnkaaEqArr
import Derived.Deep.RegionHeld3
import Derived.Lib.MinMax
namespace Go.Proofs.Ytogbagjgagbnkaa
open Go.ChangeShapes Go.WideShapes Go.ChangeAt Go.RowKit Plain

set_option maxHeartbeats 1000000 in
theorem FnCMYKMonotone_walk (a0 a1 a2 a3 a4 : Int) (h0 : 0 ≤ a0) (g0 : a0 ≤ 255) (h1 : 0 ≤ a1) (g1 : a1 ≤ 255) (h2 : 0 ≤ a2) (g2 : a2 ≤ 255) (h3 : 0 ≤ a3) (g3 : a3 ≤ 255) (h4 : 0 ≤ a4) (g4 : a4 ≤ 255) (w : World) :
    Calls Try.prog 3 #[.int .u8 a0, .int .u8 a1, .int .u8 a2, .int .u8 a3, .int .u8 a4] w fun e w' => e = .returned (.bool true) ∧ Below w.heap.size w w' := by
  have m0 : ink8 a0 (max a3 a4) ≤ ink8 a0 (min a3 a4) := ink8_mono h0 (by omega) (by omega) (by omega) g0 (by omega)
  have m1 : ink8 a1 (max a3 a4) ≤ ink8 a1 (min a3 a4) := ink8_mono h1 (by omega) (by omega) (by omega) g1 (by omega)
  have m2 : ink8 a2 (max a3 a4) ≤ ink8 a2 (min a3 a4) := ink8_mono h2 (by omega) (by omega) (by omega) g2 (by omega)
  have m3 : ink8 (max a0 a4) a3 ≤ ink8 a0 a3 := ink8_mono h0 h3 (by omega) (by omega) (by omega) g3
  have m4 : ink8 0 0 = 255 := by decide
  have hq := eqArr3
  have i0 : ∀ (x0 x1 x2 : Value) (w : World), (Instr.index 22 (.agg #[x0, x1, x2]) (.int .i64 0)).run Try.prog w = .ok x0 w := fun _ _ _ _ => by kernel_rfl
  go_enter Try.func3, Try.ntmps3
  go_wp2_with fail
  refine (implCMYKToRGB _ _ _ _ _ h0 g0 h1 g1 h2 g2 (by omega) (by omega)).mono ?_
  rintro e w1 ⟨rfl, b1⟩
  go_wp2_with fail
  refine (implCMYKToRGB _ _ _ _ _ h0 g0 h1 g1 h2 g2 (by omega) (by omega)).mono ?_
  rintro e w2 ⟨rfl, b2⟩
  go_wp2_with fail
  refine (implCMYKToRGB _ _ _ _ _ (by omega) (by omega) h1 g1 h2 g2 h3 g3).mono ?_
  rintro e w3 ⟨rfl, b3⟩
  go_wp2_with fail
  generalize hW : w3.alloc _ = W
  have B0 : Below w.heap.size w W := by
    subst hW
    have s1 := b1.size
    have s2 := b2.size
    have s3 := b3.size
    simp at s3
    refine Below.alloc ((b1.trans (b2.mono s1)).trans (Below.trans ?_ (b3.mono (by simp; omega)))) (by omega) _
    exact ((Below.refl _ _).alloc (by omega) _).alloc (by simp; omega) _
  have cc : ∀ p v, ((w2.alloc (.cells #[.int .u8 (ink8 a0 (min a3 a4)), .int .u8 (ink8 a1 (min a3 a4)), .int .u8 (ink8 a2 (min a3 a4))] 22)).alloc (.cells #[.int .u8 (ink8 a0 (max a3 a4)), .int .u8 (ink8 a1 (max a3 a4)), .int .u8 (ink8 a2 (max a3 a4))] 22)).cell? p = some v → W.cell? p = some v := by
    subst hW
    intro p v h
    exact cell_later ((Below.refl _ _).alloc (Nat.le_refl _) _) (cell_later b3 h)
  have c0 := cc ⟨w2.heap.size, 0, none⟩ (.int .u8 (ink8 a0 (min a3 a4))) (by simp [go_sem])
  have c1 := cc ⟨w2.heap.size, 1, none⟩ (.int .u8 (ink8 a1 (min a3 a4))) (by simp [go_sem])
  have c2 := cc ⟨w2.heap.size, 2, none⟩ (.int .u8 (ink8 a2 (min a3 a4))) (by simp [go_sem])
  have d0 := cc ⟨w2.heap.size + 1, 0, none⟩ (.int .u8 (ink8 a0 (max a3 a4))) (by simp [go_sem])
  have d1 := cc ⟨w2.heap.size + 1, 1, none⟩ (.int .u8 (ink8 a1 (max a3 a4))) (by simp [go_sem])
  have d2 := cc ⟨w2.heap.size + 1, 2, none⟩ (.int .u8 (ink8 a2 (max a3 a4))) (by simp [go_sem])
  have e0 : W.cell? ⟨w3.heap.size, 0, none⟩ = some (.int .u8 (ink8 (max a0 a4) a3)) := by subst hW; simp [go_sem]
  clear b1 b2 b3 hW cc
  go_region_held3 (fun w' => Below w.heap.size w w' ∧ w'.cell? ⟨w2.heap.size, 0, none⟩ = some (.int .u8 (ink8 a0 (min a3 a4))) ∧ w'.cell? ⟨w2.heap.size, 1, none⟩ = some (.int .u8 (ink8 a1 (min a3 a4))) ∧ w'.cell? ⟨w2.heap.size, 2, none⟩ = some (.int .u8 (ink8 a2 (min a3 a4))) ∧
    w'.cell? ⟨w2.heap.size + 1, 0, none⟩ = some (.int .u8 (ink8 a0 (max a3 a4))) ∧ w'.cell? ⟨w2.heap.size + 1, 1, none⟩ = some (.int .u8 (ink8 a1 (max a3 a4))) ∧ w'.cell? ⟨w2.heap.size + 1, 2, none⟩ = some (.int .u8 (ink8 a2 (max a3 a4))) ∧ w'.cell? ⟨w3.heap.size, 0, none⟩ = some (.int .u8 (ink8 (max a0 a4) a3)))
    (first | exact ⟨B0.drew, c0, c1, c2, d0, d1, d2, e0⟩ | assumption | exact keep7 (by assumption) (by assumption))
    (first | (go_at_call 11; refine (implCMYKToRGB _ _ _ _ _ (by omega) (by omega) (by omega) (by omega) (by omega) (by omega) (by omega) (by omega)).mono ?_; rintro e w' ⟨rfl, hb⟩))
  go_wp2
  go_ret
  rename_i hH
  exact ⟨rfl, hH.1⟩
/-! ### The row's step, for FnCMYKMonotone. -/
namespace FnCMYKMonotoneFrame
open Go.ChangeShapes Go.WideShapes Go.ChangeAt Go.RowKit
theorem own : ownKnob Try.prog.godebug = none := by kernel_rfl
set_option maxRecDepth 100000 in
theorem lifted (os : Os) (started : os.Started) (H : Type) (enc : TypeId × Value → H) :
    ReturnsInHanded {} Try.checked os 3 .any (Rows.fnCMYKMonotoneSpec.pre6 enc Try.prog Try.f3 Rows.fnCMYKMonotoneRow.domain false) (Rows.fnCMYKMonotoneSpec.post enc Try.prog Try.f3 false true false false) := by
  refine returnsInHanded_of_change (C := Try.checked) own started (by kernel_rfl) Try.func3
    (ChangeSpec.witness6 (enc := enc) (C := Try.checked) false ⟨#[], #[.int .u8 0, .int .u8 0, .int .u8 0, .int .u8 0, .int .u8 0], []⟩ 8 (by kernel_rfl) (by kernel_rfl) (by kernel_rfl) (by kernel_rfl)) ?_
  intro W base args ds gs before hval0 hW hcnd _
  have hval : ∀ (j : Nat) t v, Try.f3.params[j]? = some t → args[j]? = some v → Value.okWide Try.prog W .any base t v := hval0
  have hW' := hW
  obtain ⟨p, q, hA0, hV, rfl, hfz, hnd⟩ := hW
  have hA : DataW.TrodAll enc Try.prog W 0 (fun _ => true) true Try.f3.params.toList args.toList ds p := hA0
  rw [Try.params3] at hA hval
  obtain ⟨v0, vs0, d0, ds0, p0, q0, hargs, rfl, rfl, h0, r0⟩ := trodAll_cons hA
  obtain ⟨v1, vs1, d1, ds1, p1, q1, rfl, rfl, rfl, h1, r1⟩ := trodAll_cons r0
  obtain ⟨v2, vs2, d2, ds2, p2, q2, rfl, rfl, rfl, h2, r2⟩ := trodAll_cons r1
  obtain ⟨v3, vs3, d3, ds3, p3, q3, rfl, rfl, rfl, h3, r3⟩ := trodAll_cons r2
  obtain ⟨v4, vs4, d4, ds4, p4, q4, rfl, rfl, rfl, h4, r4⟩ := trodAll_cons r3
  obtain ⟨rfl, rfl, rfl⟩ := trodAll_nil r4
  obtain rfl : args = #[v0, v1, v2, v3, v4] := by cases args; simp_all
  obtain ⟨rfl, rfl⟩ := trodVars_none hV
  obtain ⟨a0, rfl, rfl, rfl, w0⟩ := open_int Try.underlying5 (hval 0 5 v0 rfl rfl) h0
  have b0 := bounds_u8 w0
  obtain ⟨a1, rfl, rfl, rfl, w1⟩ := open_int Try.underlying5 (hval 1 5 v1 rfl rfl) h1
  have b1 := bounds_u8 w1
  obtain ⟨a2, rfl, rfl, rfl, w2⟩ := open_int Try.underlying5 (hval 2 5 v2 rfl rfl) h2
  have b2 := bounds_u8 w2
  obtain ⟨a3, rfl, rfl, rfl, w3⟩ := open_int Try.underlying5 (hval 3 5 v3 rfl rfl) h3
  have b3 := bounds_u8 w3
  obtain ⟨a4, rfl, rfl, rfl, w4⟩ := open_int Try.underlying5 (hval 4 5 v4 rfl rfl) h4
  have b4 := bounds_u8 w4
  clear hA0 hval0
  refine (FnCMYKMonotone_walk a0 a1 a2 a3 a4 b0.1 b0.2 b1.1 b1.2 b2.1 b2.2 b3.1 b3.2 b4.1 b4.2 W).mono fun e W' ⟨he, bel⟩ => ?_
  subst he
  exact ⟨_, rfl, _, _, _, [], _, [], hW', trodAll_mk1 (shut_bool Try.underlying4 _), (trodAll_cons_mk (shut_int Try.underlying5 w0) (trodAll_cons_mk (shut_int Try.underlying5 w1) (trodAll_cons_mk (shut_int Try.underlying5 w2) (trodAll_cons_mk (shut_int Try.underlying5 w3) (trodAll_cons_mk (shut_int Try.underlying5 w4) trodAll_mk0))))), rfl, bel.frame _, fun h => by cases h⟩
theorem over : Rows.fnCMYKMonotoneRow.holds Try.pinned (OpenSpec.ofChange Rows.fnCMYKMonotoneSpec) :=
  OpenClaim.holds_of_wide 3 Try.f3 rfl rfl rfl rfl rfl rfl rfl ⟨rfl, rfl, rfl, rfl, rfl⟩ rfl rfl rfl rfl rfl (by kernel_rfl) Try.func3 (by kernel_rfl)
    (of_decide_eq_true (by kernel_rfl)) (by unfold Func.isWrapper; first | (rw [if_pos (by decide +kernel)]; kernel_rfl) | (rw [if_neg (by decide +kernel)]; exact ⟨rfl, rfl⟩))
    (fun os started H enc _ => lifted os started H enc)
end FnCMYKMonotoneFrame
/-- THE STATEMENT. -/
theorem FnCMYKMonotone_holds : Rows.FnCMYKMonotoneSaid := FnCMYKMonotoneFrame.over
#print axioms FnCMYKMonotone_holds
end Go.Proofs.Ytogbagjgagbnkaa
