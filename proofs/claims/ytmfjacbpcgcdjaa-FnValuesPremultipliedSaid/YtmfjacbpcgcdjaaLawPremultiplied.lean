/- The values of a valid color, and of what a model makes of it, are scaled by alpha: FnValuesPremultiplied returns true for every number and every color. No conditions. -/
import Derived.Test.YtmfjacbpcgcdjaaOpen
import Derived.Test.YtmfjacbpcgcdjaaConv
import Derived.Test.YtmfjacbpcgcdjaaValid
import Derived.Test.YtmfjacbpcgcdjaaHelp
import Derived.Test.YtmfjacbpcgcdjaaPlainLaws
import Derived.IntWalk
import Derived.Deep.DeepCutAuto
import Derived.Test.YtmfjacbpcgcdjaaPlainLaws2
import Derived.Test.YtmfjacbpcgcdjaaKeep
import Derived.Test.YtmfjacbpcgcdjaaBoxP
import Derived.Deep.RegionHeld3
import Derived.Lib.MinMax
import Derived.WalkLawsBesides
namespace Go.Proofs.Ytmfjacbpcgcdjaa
open Go.ChangeShapes Go.WideShapes Go.ChangeAt Go.RowKit Plain
set_option linter.unusedVariables false

set_option maxRecDepth 100000 in
set_option maxHeartbeats 4000000 in
theorem FnValuesPremultiplied_walk (m : Int) (k a b c d : Int) (hm0 : -9223372036854775808 ≤ m) (hm1 : m ≤ 9223372036854775807) (hk0 : -9223372036854775808 ≤ k) (hk1 : k ≤ 9223372036854775807) (ha0 : 0 ≤ a) (ha1 : a ≤ 65535) (hb0 : 0 ≤ b) (hb1 : b ≤ 65535) (hc0 : 0 ≤ c) (hc1 : c ≤ 65535) (hd0 : 0 ≤ d) (hd1 : d ≤ 65535) (w : World) :
    Calls Try.prog 4 #[.int .i64 m, .agg #[.int .i64 k, .int .u16 a, .int .u16 b, .int .u16 c, .int .u16 d]] w fun e w' => e = .returned (.bool true) ∧ Below w.heap.size w w' := by
  by_cases hm : 0 ≤ m ∧ m < 11
  rotate_left
  · have M := Lib.hid (fun w => lawsIsModel_no m w (by omega))
    clear hm
    go_enter Try.func4, Try.ntmps4
    go_wp2_with fail
    refine (M.out _).mono ?_
    rintro e w' ⟨rfl, rfl⟩
    go_wp2_with fail
    go_ret
    exact ⟨rfl, by repeat (first | exact Below.refl _ _ | refine laterAlloc ?_ _ | refine Below.drew ?_ | refine below_drewN ?_ _ | refine later (by assumption) ?_)⟩
  have M := Lib.hid (fun w => lawsIsModel_yes m w hm.1 hm.2)
  have hm' : m = 0 ∨ m = 1 ∨ m = 2 ∨ m = 3 ∨ m = 4 ∨ m = 5 ∨ m = 6 ∨ m = 7 ∨ m = 8 ∨ m = 9 ∨ m = 10 := by omega
  have HM := Lib.hid hm'
  clear hm hm'
  by_cases hv : valid k a b c d
  rotate_left
  · have V := Lib.hid (fun w => specValid_no k a b c d w ha0 ha1 hb0 hb1 hc0 hc1 hd0 hd1 hv)
    clear hv
    go_enter Try.func4, Try.ntmps4
    go_wp2_with fail
    refine (M.out _).mono ?_
    rintro e w' ⟨rfl, rfl⟩
    go_wp2_with fail
    refine (V.out _).mono ?_
    rintro e w1 ⟨rfl, b1⟩
    go_wp2_with fail
    go_ret
    exact ⟨rfl, by repeat (first | exact Below.refl _ _ | refine laterAlloc ?_ _ | refine Below.drew ?_ | refine below_drewN ?_ _ | refine later (by assumption) ?_)⟩
  have hcv : valid m (cv0 m k a b c d) (cv1 m k a b c d) (cv2 m k a b c d) (cv3 m k a b c d) := cv_valid HM.out hv
  have V := Lib.hid (fun w => specValid_yes k a b c d w hv)
  go_enter Try.func4, Try.ntmps4
  go_wp2_with fail
  refine (M.out _).mono ?_
  rintro e w' ⟨rfl, rfl⟩
  go_wp2_with fail
  refine (V.out _).mono ?_
  rintro e w1 ⟨rfl, b1⟩
  have e0 : w1.cell? ⟨w.heap.size, 0, none⟩ = some (.int .i64 k) := cell_later b1 (by first | exact e0 | exact cellAlloc _ e0 | exact cellAlloc _ (cellAlloc _ e0) | simp [go_sem])
  have e1 : w1.cell? ⟨w.heap.size, 1, none⟩ = some (.int .u16 a) := cell_later b1 (by first | exact e1 | exact cellAlloc _ e1 | exact cellAlloc _ (cellAlloc _ e1) | simp [go_sem])
  have e2 : w1.cell? ⟨w.heap.size, 2, none⟩ = some (.int .u16 b) := cell_later b1 (by first | exact e2 | exact cellAlloc _ e2 | exact cellAlloc _ (cellAlloc _ e2) | simp [go_sem])
  have e3 : w1.cell? ⟨w.heap.size, 3, none⟩ = some (.int .u16 c) := cell_later b1 (by first | exact e3 | exact cellAlloc _ e3 | exact cellAlloc _ (cellAlloc _ e3) | simp [go_sem])
  have e4 : w1.cell? ⟨w.heap.size, 4, none⟩ = some (.int .u16 d) := cell_later b1 (by first | exact e4 | exact cellAlloc _ e4 | exact cellAlloc _ (cellAlloc _ e4) | simp [go_sem])
  have B1 : Below w.heap.size w w1 := later b1 (laterAlloc (Below.refl _ _) _)
  have hz : w.heap.size < w1.heap.size := by have := b1.size; simp at this; omega
  clear b1 V M
  have rv := vals_range hv
  have rw := vals_range hcv
  have X0 : Box w w.heap.size k a b c d w1 := ⟨B1, e0, e1, e2, e3, e4⟩
  have x0 : ∀ w', Box w w.heap.size k a b c d w' → w'.cell? ⟨w.heap.size, 0, none⟩ = some (.int .i64 k) := fun _ h => h.c0
  have x1 : ∀ w', Box w w.heap.size k a b c d w' → w'.cell? ⟨w.heap.size, 1, none⟩ = some (.int .u16 a) := fun _ h => h.c1
  have x2 : ∀ w', Box w w.heap.size k a b c d w' → w'.cell? ⟨w.heap.size, 2, none⟩ = some (.int .u16 b) := fun _ h => h.c2
  have x3 : ∀ w', Box w w.heap.size k a b c d w' → w'.cell? ⟨w.heap.size, 3, none⟩ = some (.int .u16 c) := fun _ h => h.c3
  have x4 : ∀ w', Box w w.heap.size k a b c d w' → w'.cell? ⟨w.heap.size, 4, none⟩ = some (.int .u16 d) := fun _ h => h.c4
  go_upto_region 3 with (fail)
  clear e0 e1 e2 e3 e4 B1 hk0 hk1 ha0 ha1 hb0 hb1 hc0 hc1 hd0 hd1 hm0 hm1
  go_cut [5, 6] (fun v5 v6 wx => ∃ g h : Nat, v5 = .pointer (some ⟨g, 0, none⟩) ∧ v6 = .pointer (some ⟨h, 0, none⟩) ∧ Below w.heap.size w wx ∧ wx.cell? ⟨w.heap.size, 0, none⟩ = some (.int .i64 k) ∧ wx.cell? ⟨g, 0, none⟩ = some (.int .u32 (vR k a b c d)) ∧ wx.cell? ⟨g, 1, none⟩ = some (.int .u32 (vG k a b c d)) ∧ wx.cell? ⟨g, 2, none⟩ = some (.int .u32 (vB k a b c d)) ∧ wx.cell? ⟨g, 3, none⟩ = some (.int .u32 (vA k a b c d)) ∧ wx.cell? ⟨h, 0, none⟩ = some (.int .u32 (wR m k a b c d)) ∧ wx.cell? ⟨h, 1, none⟩ = some (.int .u32 (wG m k a b c d)) ∧ wx.cell? ⟨h, 2, none⟩ = some (.int .u32 (wB m k a b c d)) ∧ wx.cell? ⟨h, 3, none⟩ = some (.int .u32 (wA m k a b c d)))
  case first =>
    clear rv rw
    go_region_held3 (fun w' => Box w w.heap.size k a b c d w')
      (first | with_reducible assumption | with_reducible exact X0.drew | with_reducible exact Box.call (by assumption) (by assumption) | with_reducible exact Box.drew (Box.up (Box.undrew (by assumption))) | with_reducible exact (Box.up (by assumption)) | with_reducible exact (Box.up (Box.down (by first | omega | (simp; omega)) (by first | omega | (simp; omega)) (by assumption))) | with_reducible exact (Box.up (Box.up (Box.down (by first | omega | (simp; omega)) (by first | omega | (simp; omega)) (Box.down (by first | omega | (simp; omega)) (by first | omega | (simp; omega)) (by assumption))))) | with_reducible exact (Box.set (by first | omega | (simp; omega)) (by first | omega | (simp; omega)) (Box.set (by first | omega | (simp; omega)) (by first | omega | (simp; omega)) (Box.set (by first | omega | (simp; omega)) (by first | omega | (simp; omega)) (Box.set (by first | omega | (simp; omega)) (by first | omega | (simp; omega)) (by assumption))))) | with_reducible exact (Box.up (Box.set (by first | omega | (simp; omega)) (by first | omega | (simp; omega)) (Box.set (by first | omega | (simp; omega)) (by first | omega | (simp; omega)) (Box.set (by first | omega | (simp; omega)) (by first | omega | (simp; omega)) (Box.set (by first | omega | (simp; omega)) (by first | omega | (simp; omega)) (Box.down (by first | omega | (simp; omega)) (by first | omega | (simp; omega)) (by assumption))))))))
      (first | (go_at_call 18; refine (implValues _ _ _ _ _ _ (by first | exact hv | exact hcv)).mono ?_; rintro e w' ⟨rfl, hb⟩; obtain ⟨cc, cf⟩ := bcell hb; have hzz := hb.size; (try simp at hzz); (try (first | have hz8 := Nat.lt_of_lt_of_le hz6 hzz | have hz8 := Nat.lt_trans hz6 hzz | have hz8 := Nat.lt_of_lt_of_le hz6 (Nat.le_of_succ_le hzz) | have hz8 := Nat.lt_of_lt_of_le hz6 (Nat.le_of_succ_le (Nat.le_of_succ_le hzz)))); (try (first | have hz9 := Nat.lt_of_lt_of_le hz7 hzz | have hz9 := Nat.lt_trans hz7 hzz | have hz9 := Nat.lt_of_lt_of_le hz7 (Nat.le_of_succ_le hzz) | have hz9 := Nat.lt_of_lt_of_le hz7 (Nat.le_of_succ_le (Nat.le_of_succ_le hzz)))); (try (first | have hz6 := Nat.lt_of_lt_of_le hz2 hzz | have hz6 := Nat.lt_trans hz2 hzz | have hz6 := Nat.lt_of_lt_of_le hz2 (Nat.le_of_succ_le hzz) | have hz6 := Nat.lt_of_lt_of_le hz2 (Nat.le_of_succ_le (Nat.le_of_succ_le hzz)))); (try (first | have hz7 := Nat.lt_of_lt_of_le hz3 hzz | have hz7 := Nat.lt_trans hz3 hzz | have hz7 := Nat.lt_of_lt_of_le hz3 (Nat.le_of_succ_le hzz) | have hz7 := Nat.lt_of_lt_of_le hz3 (Nat.le_of_succ_le (Nat.le_of_succ_le hzz)))); (try (have hz2 := Nat.lt_of_lt_of_le (Nat.lt_succ_self _) hzz)); (try (have hz3 := Nat.lt_of_succ_lt hz2)); (try (have hz2n := Nat.ne_of_lt hz2; have hz2m := Nat.ne_of_gt hz2)); (try (have hz3n := Nat.ne_of_lt hz3; have hz3m := Nat.ne_of_gt hz3)); (try (have hz6n := Nat.ne_of_lt hz6; have hz6m := Nat.ne_of_gt hz6)); (try (have hz7n := Nat.ne_of_lt hz7; have hz7m := Nat.ne_of_gt hz7)); (try (have hz8n := Nat.ne_of_lt hz8; have hz8m := Nat.ne_of_gt hz8)); (try (have hz9n := Nat.ne_of_lt hz9; have hz9m := Nat.ne_of_gt hz9))) | (go_at_call 19; refine (implConvert m k a b c d _ HM.out hv).mono ?_; rintro e w' ⟨rfl, hb⟩; obtain ⟨cc, cf⟩ := bcell hb; have hzz := hb.size; (try simp at hzz); (try (first | have hz8 := Nat.lt_of_lt_of_le hz6 hzz | have hz8 := Nat.lt_trans hz6 hzz | have hz8 := Nat.lt_of_lt_of_le hz6 (Nat.le_of_succ_le hzz) | have hz8 := Nat.lt_of_lt_of_le hz6 (Nat.le_of_succ_le (Nat.le_of_succ_le hzz)))); (try (first | have hz9 := Nat.lt_of_lt_of_le hz7 hzz | have hz9 := Nat.lt_trans hz7 hzz | have hz9 := Nat.lt_of_lt_of_le hz7 (Nat.le_of_succ_le hzz) | have hz9 := Nat.lt_of_lt_of_le hz7 (Nat.le_of_succ_le (Nat.le_of_succ_le hzz)))); (try (first | have hz6 := Nat.lt_of_lt_of_le hz2 hzz | have hz6 := Nat.lt_trans hz2 hzz | have hz6 := Nat.lt_of_lt_of_le hz2 (Nat.le_of_succ_le hzz) | have hz6 := Nat.lt_of_lt_of_le hz2 (Nat.le_of_succ_le (Nat.le_of_succ_le hzz)))); (try (first | have hz7 := Nat.lt_of_lt_of_le hz3 hzz | have hz7 := Nat.lt_trans hz3 hzz | have hz7 := Nat.lt_of_lt_of_le hz3 (Nat.le_of_succ_le hzz) | have hz7 := Nat.lt_of_lt_of_le hz3 (Nat.le_of_succ_le (Nat.le_of_succ_le hzz)))); (try (have hz2 := Nat.lt_of_lt_of_le (Nat.lt_succ_self _) hzz)); (try (have hz3 := Nat.lt_of_succ_lt hz2)); (try (have hz2n := Nat.ne_of_lt hz2; have hz2m := Nat.ne_of_gt hz2)); (try (have hz3n := Nat.ne_of_lt hz3; have hz3m := Nat.ne_of_gt hz3)); (try (have hz6n := Nat.ne_of_lt hz6; have hz6m := Nat.ne_of_gt hz6)); (try (have hz7n := Nat.ne_of_lt hz7; have hz7m := Nat.ne_of_gt hz7)); (try (have hz8n := Nat.ne_of_lt hz8; have hz8m := Nat.ne_of_gt hz8)); (try (have hz9n := Nat.ne_of_lt hz9; have hz9m := Nat.ne_of_gt hz9))))
    all_goals (rename_i hH; go_wp2_with fail; go_meet; refine ⟨_, _, rfl, rfl, hH.below, hH.c0, ?_⟩; clear hH x0 x1 x2 x3 x4; refine ⟨?_, ?_, ?_, ?_, ?_, ?_, ?_, ?_⟩ <;> (first | (simp [go_sem, wR, wG, wB, wA, *]; done) | (simp (maxDischargeDepth := 12) [go_sem, wR, wG, wB, wA, *]; done)))
  case rest =>
    obtain ⟨g, h, rfl, rfl, BB, k0, g0, g1, g2, g3, h0, h1, h2, h3⟩ := hcut
    unfold wR at h0
    unfold wG at h1
    unfold wB at h2
    unfold wA at h3
    clear x0 x1 x2 x3 x4 X0 hz
    by_cases hk : k = 8 ∨ k = 9
    · have h65 : vA k a b c d = 65535 := by rcases hk with rfl | rfl <;> rfl
      rw [h65] at g3 rv
      rcases hk with rfl | rfl
      all_goals
        clear h65
        go_wp2_with fail
        refine (lawsPremultiplied _ _ _ _ _ (by omega) (by omega) (by omega) (by omega)).mono ?_
        rintro e w4 ⟨rfl, b4⟩
        have q0 := cell_later b4 h0
        have q1 := cell_later b4 h1
        have q2 := cell_later b4 h2
        have q3 := cell_later b4 h3
        go_wp2_with fail
        refine (lawsPremultiplied _ _ _ _ _ (by omega) (by omega) (by omega) (by omega)).mono ?_
        rintro e w5 ⟨rfl, b5⟩
        go_wp2_with fail
        go_ret
        exact ⟨rfl, later b5 (later b4 BB)⟩
    · have e8 : (k == 8) = false := beq_eq_false_iff_ne.2 (by omega)
      have e9 : (k == 9) = false := beq_eq_false_iff_ne.2 (by omega)
      clear hk
      go_wp2_with fail
      refine (lawsPremultiplied _ _ _ _ _ (by omega) (by omega) (by omega) (by omega)).mono ?_
      rintro e w4 ⟨rfl, b4⟩
      have q0 := cell_later b4 h0
      have q1 := cell_later b4 h1
      have q2 := cell_later b4 h2
      have q3 := cell_later b4 h3
      go_wp2_with fail
      refine (lawsPremultiplied _ _ _ _ _ (by omega) (by omega) (by omega) (by omega)).mono ?_
      rintro e w5 ⟨rfl, b5⟩
      go_wp2_with fail
      go_ret
      exact ⟨rfl, later b5 (later b4 BB)⟩
/-! ### The row's step, for FnValuesPremultiplied. -/
namespace FnValuesPremultipliedFrame
open Go.ChangeShapes Go.WideShapes Go.ChangeAt Go.RowKit
theorem own : ownKnob Try.prog.godebug = none := by kernel_rfl
theorem laidOut : laidOutB Try.prog = true := by kernel_rfl
set_option maxRecDepth 100000 in
theorem lifted (os : Os) (started : os.Started) (H : Type) (enc : TypeId × Value → H) :
    ReturnsInHanded {} Try.checked os 4 .any (Rows.fnValuesPremultipliedSpec.pre6 enc Try.prog Try.f4 Rows.fnValuesPremultipliedRow.domain false) (Rows.fnValuesPremultipliedSpec.post enc Try.prog Try.f4 false true false false) := by
  refine returnsInHanded_of_change (C := Try.checked) own started (by kernel_rfl) Try.func4
    (ChangeSpec.witness6 (enc := enc) (C := Try.checked) false ⟨#[], #[.int .i64 0, .agg #[.int .i64 0, .int .u16 0, .int .u16 0, .int .u16 0, .int .u16 0]], []⟩ 8 (by kernel_rfl) (by kernel_rfl) (by kernel_rfl) (by kernel_rfl)) ?_
  intro W base args ds gs before hval0 hW hcnd _
  have hval : ∀ (j : Nat) t v, Try.f4.params[j]? = some t → args[j]? = some v → Value.okWide Try.prog W .any base t v := hval0
  have hW' := hW
  obtain ⟨p, q, hA0, hV, rfl, hfz, hnd⟩ := hW
  have hA : DataW.TrodAll enc Try.prog W 0 (fun _ => true) true Try.f4.params.toList args.toList ds p := hA0
  rw [Try.params4] at hA hval
  obtain ⟨v0, vs0, d0, ds0, p0, q0, hargs, rfl, rfl, h0, r0⟩ := trodAll_cons hA
  obtain ⟨v1, vs1, d1, ds1, p1, q1, rfl, rfl, rfl, h1, r1⟩ := trodAll_cons r0
  obtain ⟨rfl, rfl, rfl⟩ := trodAll_nil r1
  obtain rfl : args = #[v0, v1] := by cases args; simp_all
  obtain ⟨rfl, rfl⟩ := trodVars_none hV
  obtain ⟨a0, rfl, rfl, rfl, w0⟩ := open_int Try.underlying3 (hval 0 3 v0 rfl rfl) h0
  have b0 := bounds_i64 w0
  have k1 := h1
  have lt1 : ∀ x ∈ p1, x.block < W.heap.size := by obtain ⟨m, hm⟩ := k1; exact DataW.trod_lt m _ _ _ hm
  obtain ⟨k_1, a_1, b_1, c_1, d_1, rfl, hk1, ha1, hb1, hc1, hd1⟩ := open_color (hval 1 25 v1 rfl rfl) h1
  clear hA0 hval0
  refine (FnValuesPremultiplied_walk a0 k_1 a_1 b_1 c_1 d_1 b0.1 b0.2 hk1.1 hk1.2 ha1.1 ha1.2 hb1.1 hb1.2 hc1.1 hc1.2 hd1.1 hd1.2 W).mono fun e W' ⟨he, bel⟩ => ?_
  subst he
  exact ⟨_, rfl, _, _, _, [], _, [], hW', trodAll_mk1 (shut_bool Try.underlying4 _), (trodAll_cons_mk (shut_int Try.underlying3 w0) (trodAll_cons_mk (Below.trod laidOut (by kernel_rfl) (of_decide_eq_true (by kernel_rfl)) k1 bel lt1) trodAll_mk0)), rfl, bel.frame _, fun h => by cases h⟩
theorem over : Rows.fnValuesPremultipliedRow.holds Try.pinned (OpenSpec.ofChange Rows.fnValuesPremultipliedSpec) :=
  OpenClaim.holds_of_wide 4 Try.f4 rfl rfl rfl rfl rfl rfl rfl ⟨rfl, rfl, rfl, rfl, rfl⟩ rfl rfl rfl rfl rfl (by kernel_rfl) Try.func4 (by kernel_rfl)
    (of_decide_eq_true (by kernel_rfl)) (by unfold Func.isWrapper; first | (rw [if_pos (by decide +kernel)]; kernel_rfl) | (rw [if_neg (by decide +kernel)]; exact ⟨rfl, rfl⟩))
    (fun os started H enc _ => lifted os started H enc)
end FnValuesPremultipliedFrame
/-- THE STATEMENT. -/
theorem FnValuesPremultiplied_holds : Rows.FnValuesPremultipliedSaid := FnValuesPremultipliedFrame.over
#print axioms FnValuesPremultiplied_holds
end Go.Proofs.Ytmfjacbpcgcdjaa
