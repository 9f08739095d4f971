/- Colors of 16 bits a component, not alpha-premultiplied, have the alpha of the color, and values at most 1 from its values: FnNRGBA64Near returns true for every color. No conditions. -/
import Derived.Test.YtkjcaiakcailnaaOpen
import Derived.Test.YtkjcaiakcailnaaConv
import Derived.Test.YtkjcaiakcailnaaValid
import Derived.Test.YtkjcaiakcailnaaHelp
import Derived.Test.YtkjcaiakcailnaaPlainLaws
import Derived.IntWalk
import Derived.Deep.DeepCutAuto
import Derived.Test.YtkjcaiakcailnaaPlainLaws2
import Derived.Test.YtkjcaiakcailnaaPlainLaws3
import Derived.Test.YtkjcaiakcailnaaKeep
import Derived.Test.YtkjcaiakcailnaaBoxP
import Derived.Deep.RegionHeld3
import Derived.Lib.MinMax
import Derived.WalkLawsBesides
namespace Go.Proofs.Ytkjcaiakcailnaa
open Go.ChangeShapes Go.WideShapes Go.ChangeAt Go.RowKit Plain
set_option linter.unusedVariables false

set_option maxRecDepth 100000 in
set_option maxHeartbeats 4000000 in
theorem FnNRGBA64Near_walk (k a b c d : Int) (hk0 : -9223372036854775808 ≤ k) (hk1 : k ≤ 9223372036854775807) (ha0 : 0 ≤ a) (ha1 : a ≤ 65535) (hb0 : 0 ≤ b) (hb1 : b ≤ 65535) (hc0 : 0 ≤ c) (hc1 : c ≤ 65535) (hd0 : 0 ≤ d) (hd1 : d ≤ 65535) (w : World) :
    Calls Try.prog 4 #[.agg #[.int .i64 k, .int .u16 a, .int .u16 b, .int .u16 c, .int .u16 d]] w fun e w' => e = .returned (.bool true) ∧ Below w.heap.size w w' := by
  by_cases hv : valid k a b c d
  rotate_left
  · have V := Lib.hid (fun w => specValid_no k a b c d w ha0 ha1 hb0 hb1 hc0 hc1 hd0 hd1 hv)
    clear hv
    go_enter Try.func4, Try.ntmps4
    go_wp2_with fail
    refine (V.out _).mono ?_
    rintro e w1 ⟨rfl, b1⟩
    go_wp2_with fail
    go_ret
    exact ⟨rfl, by repeat (first | exact Below.refl _ _ | refine laterAlloc ?_ _ | refine Below.drew ?_ | refine below_drewN ?_ _ | refine later (by assumption) ?_)⟩
  have hcv : valid 3 (cv0 3 k a b c d) (cv1 3 k a b c d) (cv2 3 k a b c d) (cv3 3 k a b c d) := cv_valid (by omega) hv
  have rv := vals_range hv
  have rcv := vals_range hcv
  obtain ⟨n0, n1, n2, n3, n4⟩ := near_nrgba64 hv
  unfold nearTo wR at n0
  unfold nearTo wG at n1
  unfold nearTo wB at n2
  unfold nearTo wA at n3
  have N := Lib.hid n4
  clear n4
  have V := Lib.hid (fun w => specValid_yes k a b c d w hv)
  go_enter Try.func4, Try.ntmps4
  go_wp2_with fail
  refine (V.out _).mono ?_
  rintro e w1 ⟨rfl, b1⟩
  obtain ⟨cc, cf⟩ := bcell b1
  have e0 : w1.cell? ⟨w.heap.size, 0, none⟩ = some (.int .i64 k) := cell_later b1 (by simp [go_sem])
  have e1 : w1.cell? ⟨w.heap.size, 1, none⟩ = some (.int .u16 a) := cell_later b1 (by simp [go_sem])
  have e2 : w1.cell? ⟨w.heap.size, 2, none⟩ = some (.int .u16 b) := cell_later b1 (by simp [go_sem])
  have e3 : w1.cell? ⟨w.heap.size, 3, none⟩ = some (.int .u16 c) := cell_later b1 (by simp [go_sem])
  have e4 : w1.cell? ⟨w.heap.size, 4, none⟩ = some (.int .u16 d) := cell_later b1 (by simp [go_sem])
  have B1 : Below w.heap.size w w1 := later b1 (laterAlloc (Below.refl _ _) _)
  have hz : w.heap.size < w1.heap.size := by have := b1.size; simp at this; omega
  clear cc cf b1 V
  have X0 : Box w w.heap.size k a b c d w1 := ⟨B1, e0, e1, e2, e3, e4⟩
  have x0 : ∀ w', Box w (w.heap.size) k a b c d w' → w'.cell? ⟨w.heap.size, 0, none⟩ = some (.int .i64 k) := fun _ h => h.c0
  have x1 : ∀ w', Box w (w.heap.size) k a b c d w' → w'.cell? ⟨w.heap.size, 1, none⟩ = some (.int .u16 a) := fun _ h => h.c1
  have x2 : ∀ w', Box w (w.heap.size) k a b c d w' → w'.cell? ⟨w.heap.size, 2, none⟩ = some (.int .u16 b) := fun _ h => h.c2
  have x3 : ∀ w', Box w (w.heap.size) k a b c d w' → w'.cell? ⟨w.heap.size, 3, none⟩ = some (.int .u16 c) := fun _ h => h.c3
  have x4 : ∀ w', Box w (w.heap.size) k a b c d w' → w'.cell? ⟨w.heap.size, 4, none⟩ = some (.int .u16 d) := fun _ h => h.c4
  go_upto_region 3 with (fail)
  clear e0 e1 e2 e3 e4 B1 hk0 hk1 ha0 ha1 hb0 hb1 hc0 hc1 hd0 hd1
  go_cut [3, 4] (fun v3 v4 wx => ∃ g h : Nat, v3 = .pointer (some ⟨g, 0, none⟩) ∧ v4 = .pointer (some ⟨h, 0, none⟩) ∧ Below w.heap.size w wx ∧ wx.cell? ⟨g, 0, none⟩ = some (.int .i64 3) ∧ wx.cell? ⟨g, 1, none⟩ = some (.int .u16 (cv0 3 k a b c d)) ∧ wx.cell? ⟨g, 2, none⟩ = some (.int .u16 (cv1 3 k a b c d)) ∧ wx.cell? ⟨g, 3, none⟩ = some (.int .u16 (cv2 3 k a b c d)) ∧ wx.cell? ⟨g, 4, none⟩ = some (.int .u16 (cv3 3 k a b c d)) ∧ wx.cell? ⟨h, 0, none⟩ = some (.int .u32 (vR k a b c d)) ∧ wx.cell? ⟨h, 1, none⟩ = some (.int .u32 (vG k a b c d)) ∧ wx.cell? ⟨h, 2, none⟩ = some (.int .u32 (vB k a b c d)) ∧ wx.cell? ⟨h, 3, none⟩ = some (.int .u32 (vA k a b c d)))
  case first =>
    clear rv rcv
    go_region_held3 (fun w' => Box w w.heap.size k a b c d w')
      (first | with_reducible assumption | with_reducible exact X0.drew | with_reducible exact Box.call (by assumption) (by assumption) | with_reducible exact Box.drew (Box.up (Box.undrew (by assumption))) | with_reducible exact (Box.up (by assumption)) | with_reducible exact (Box.up (Box.down (by first | omega | (simp; omega)) (by first | omega | (simp; omega)) (by assumption))) | with_reducible exact (Box.up (Box.up (Box.down (by first | omega | (simp; omega)) (by first | omega | (simp; omega)) (Box.down (by first | omega | (simp; omega)) (by first | omega | (simp; omega)) (by assumption))))) | with_reducible exact (Box.set (by first | omega | (simp; omega)) (by first | omega | (simp; omega)) (Box.set (by first | omega | (simp; omega)) (by first | omega | (simp; omega)) (Box.set (by first | omega | (simp; omega)) (by first | omega | (simp; omega)) (Box.set (by first | omega | (simp; omega)) (by first | omega | (simp; omega)) (by assumption))))) | with_reducible exact (Box.up (Box.set (by first | omega | (simp; omega)) (by first | omega | (simp; omega)) (Box.set (by first | omega | (simp; omega)) (by first | omega | (simp; omega)) (Box.set (by first | omega | (simp; omega)) (by first | omega | (simp; omega)) (Box.set (by first | omega | (simp; omega)) (by first | omega | (simp; omega)) (Box.down (by first | omega | (simp; omega)) (by first | omega | (simp; omega)) (by assumption))))))) | with_reducible exact (Box.set (by first | omega | (simp; omega)) (by first | omega | (simp; omega)) (Box.set (by first | omega | (simp; omega)) (by first | omega | (simp; omega)) (Box.set (by first | omega | (simp; omega)) (by first | omega | (simp; omega)) (Box.set (by first | omega | (simp; omega)) (by first | omega | (simp; omega)) (Box.set (by first | omega | (simp; omega)) (by first | omega | (simp; omega)) (by assumption)))))) | with_reducible exact (Box.up (Box.set (by first | omega | (simp; omega)) (by first | omega | (simp; omega)) (Box.set (by first | omega | (simp; omega)) (by first | omega | (simp; omega)) (Box.set (by first | omega | (simp; omega)) (by first | omega | (simp; omega)) (Box.set (by first | omega | (simp; omega)) (by first | omega | (simp; omega)) (Box.set (by first | omega | (simp; omega)) (by first | omega | (simp; omega)) (Box.down (by first | omega | (simp; omega)) (by first | omega | (simp; omega)) (by assumption)))))))))
      (first | (go_at_call 9; refine (implValues k a b c d _ hv).mono ?_; rintro e w' ⟨rfl, hb⟩; obtain ⟨cc, cf⟩ := bcell hb; have hzz := hb.size; (try simp at hzz); (try (first | have hz8 := Nat.lt_of_lt_of_le hz6 hzz | have hz8 := Nat.lt_trans hz6 hzz | have hz8 := Nat.lt_of_lt_of_le hz6 (Nat.le_of_succ_le hzz) | have hz8 := Nat.lt_of_lt_of_le hz6 (Nat.le_of_succ_le (Nat.le_of_succ_le hzz)))); (try (first | have hz9 := Nat.lt_of_lt_of_le hz7 hzz | have hz9 := Nat.lt_trans hz7 hzz | have hz9 := Nat.lt_of_lt_of_le hz7 (Nat.le_of_succ_le hzz) | have hz9 := Nat.lt_of_lt_of_le hz7 (Nat.le_of_succ_le (Nat.le_of_succ_le hzz)))); (try (first | have hz6 := Nat.lt_of_lt_of_le hz2 hzz | have hz6 := Nat.lt_trans hz2 hzz | have hz6 := Nat.lt_of_lt_of_le hz2 (Nat.le_of_succ_le hzz) | have hz6 := Nat.lt_of_lt_of_le hz2 (Nat.le_of_succ_le (Nat.le_of_succ_le hzz)))); (try (first | have hz7 := Nat.lt_of_lt_of_le hz3 hzz | have hz7 := Nat.lt_trans hz3 hzz | have hz7 := Nat.lt_of_lt_of_le hz3 (Nat.le_of_succ_le hzz) | have hz7 := Nat.lt_of_lt_of_le hz3 (Nat.le_of_succ_le (Nat.le_of_succ_le hzz)))); (try (have hz2 := Nat.lt_of_lt_of_le (Nat.lt_succ_self _) hzz)); (try (have hz3 := Nat.lt_of_succ_lt hz2)); (try (have hz2n := Nat.ne_of_lt hz2; have hz2m := Nat.ne_of_gt hz2)); (try (have hz3n := Nat.ne_of_lt hz3; have hz3m := Nat.ne_of_gt hz3)); (try (have hz6n := Nat.ne_of_lt hz6; have hz6m := Nat.ne_of_gt hz6)); (try (have hz7n := Nat.ne_of_lt hz7; have hz7m := Nat.ne_of_gt hz7)); (try (have hz8n := Nat.ne_of_lt hz8; have hz8m := Nat.ne_of_gt hz8)); (try (have hz9n := Nat.ne_of_lt hz9; have hz9m := Nat.ne_of_gt hz9))) | (go_at_call 10; refine (implConvert 3 k a b c d _ (by omega) hv).mono ?_; rintro e w' ⟨rfl, hb⟩; obtain ⟨cc, cf⟩ := bcell hb; have hzz := hb.size; (try simp at hzz); (try (first | have hz8 := Nat.lt_of_lt_of_le hz6 hzz | have hz8 := Nat.lt_trans hz6 hzz | have hz8 := Nat.lt_of_lt_of_le hz6 (Nat.le_of_succ_le hzz) | have hz8 := Nat.lt_of_lt_of_le hz6 (Nat.le_of_succ_le (Nat.le_of_succ_le hzz)))); (try (first | have hz9 := Nat.lt_of_lt_of_le hz7 hzz | have hz9 := Nat.lt_trans hz7 hzz | have hz9 := Nat.lt_of_lt_of_le hz7 (Nat.le_of_succ_le hzz) | have hz9 := Nat.lt_of_lt_of_le hz7 (Nat.le_of_succ_le (Nat.le_of_succ_le hzz)))); (try (first | have hz6 := Nat.lt_of_lt_of_le hz2 hzz | have hz6 := Nat.lt_trans hz2 hzz | have hz6 := Nat.lt_of_lt_of_le hz2 (Nat.le_of_succ_le hzz) | have hz6 := Nat.lt_of_lt_of_le hz2 (Nat.le_of_succ_le (Nat.le_of_succ_le hzz)))); (try (first | have hz7 := Nat.lt_of_lt_of_le hz3 hzz | have hz7 := Nat.lt_trans hz3 hzz | have hz7 := Nat.lt_of_lt_of_le hz3 (Nat.le_of_succ_le hzz) | have hz7 := Nat.lt_of_lt_of_le hz3 (Nat.le_of_succ_le (Nat.le_of_succ_le hzz)))); (try (have hz2 := Nat.lt_of_lt_of_le (Nat.lt_succ_self _) hzz)); (try (have hz3 := Nat.lt_of_succ_lt hz2)); (try (have hz2n := Nat.ne_of_lt hz2; have hz2m := Nat.ne_of_gt hz2)); (try (have hz3n := Nat.ne_of_lt hz3; have hz3m := Nat.ne_of_gt hz3)); (try (have hz6n := Nat.ne_of_lt hz6; have hz6m := Nat.ne_of_gt hz6)); (try (have hz7n := Nat.ne_of_lt hz7; have hz7m := Nat.ne_of_gt hz7)); (try (have hz8n := Nat.ne_of_lt hz8; have hz8m := Nat.ne_of_gt hz8)); (try (have hz9n := Nat.ne_of_lt hz9; have hz9m := Nat.ne_of_gt hz9))))
    all_goals (rename_i hH; go_wp2_with fail; go_meet; refine ⟨_, _, rfl, rfl, hH.below, ?_⟩; clear hH x0 x1 x2 x3 x4; refine ⟨?_, ?_, ?_, ?_, ?_, ?_, ?_, ?_, ?_⟩ <;> (first | (simp [go_sem, *]; done) | (simp (maxDischargeDepth := 12) [go_sem, *]; done)))
  case rest =>
    obtain ⟨g, h, rfl, rfl, BB, d0, d1, d2, d3, d4, h0, h1, h2, h3⟩ := hcut
    clear x0 x1 x2 x3 x4 X0 hz
    have hcv' : valid 3 (cv0 3 k a b c d) (cv1 3 k a b c d) (cv2 3 k a b c d) (vA k a b c d) := by rw [← N.out]; exact hcv
    rw [N.out] at d4 n0 n1 n2 n3 rcv
    clear N hcv
    have wa : IntKind.u32.wrap (vA k a b c d) = vA k a b c d := IntWalk.u32_in _ (by omega)
    go_upto_region 4 with (fail)
    go_region_held3 (fun w' => Below w.heap.size w w' ∧ w'.cell? ⟨g, 0, none⟩ = some (.int .i64 3) ∧ w'.cell? ⟨g, 1, none⟩ = some (.int .u16 (cv0 3 k a b c d)) ∧ w'.cell? ⟨g, 2, none⟩ = some (.int .u16 (cv1 3 k a b c d)) ∧ w'.cell? ⟨g, 3, none⟩ = some (.int .u16 (cv2 3 k a b c d)) ∧ w'.cell? ⟨g, 4, none⟩ = some (.int .u16 (vA k a b c d)) ∧ w'.cell? ⟨h, 0, none⟩ = some (.int .u32 (vR k a b c d)) ∧ w'.cell? ⟨h, 1, none⟩ = some (.int .u32 (vG k a b c d)) ∧ w'.cell? ⟨h, 2, none⟩ = some (.int .u32 (vB k a b c d)) ∧ w'.cell? ⟨h, 3, none⟩ = some (.int .u32 (vA k a b c d)))
      (first | exact ⟨BB.drew, d0, d1, d2, d3, d4, h0, h1, h2, h3⟩ | assumption | exact keep9 (by assumption) (by assumption))
      (first | (go_at_call 12; refine (lawsWhite _).mono ?_; rintro e w' ⟨rfl, hb⟩) | (go_at_call 9; refine (implValues 3 _ _ _ _ _ hcv').mono ?_; rintro e w' ⟨rfl, hb⟩) | (go_at_call 13; refine (lawsWithin _ _ _ _ _ _ _ _ _ _ (by omega) (by omega) (by omega) (by omega) (by omega) (by omega) (by omega) (by omega) (by omega) (by omega) (by omega) (by omega) (by omega) (by omega) (by omega) (by omega) (by omega) (by omega) (by omega) (by omega)).mono ?_; rintro e w' ⟨rfl, hb⟩))
    all_goals (rename_i hH; go_wp2; go_ret; exact ⟨rfl, hH.1⟩)
/-! ### The row's step, for FnNRGBA64Near. -/
namespace FnNRGBA64NearFrame
open Go.ChangeShapes Go.WideShapes Go.ChangeAt Go.RowKit
theorem own : ownKnob Try.prog.godebug = none := by kernel_rfl
theorem laidOut : laidOutB Try.prog = true := by kernel_rfl
set_option maxRecDepth 100000 in
theorem lifted (os : Os) (started : os.Started) (H : Type) (enc : TypeId × Value → H) :
    ReturnsInHanded {} Try.checked os 4 .any (Rows.fnNRGBA64NearSpec.pre6 enc Try.prog Try.f4 Rows.fnNRGBA64NearRow.domain false) (Rows.fnNRGBA64NearSpec.post enc Try.prog Try.f4 false true false false) := by
  refine returnsInHanded_of_change (C := Try.checked) own started (by kernel_rfl) Try.func4
    (ChangeSpec.witness6 (enc := enc) (C := Try.checked) false ⟨#[], #[.agg #[.int .i64 0, .int .u16 0, .int .u16 0, .int .u16 0, .int .u16 0]], []⟩ 8 (by kernel_rfl) (by kernel_rfl) (by kernel_rfl) (by kernel_rfl)) ?_
  intro W base args ds gs before hval0 hW hcnd _
  have hval : ∀ (j : Nat) t v, Try.f4.params[j]? = some t → args[j]? = some v → Value.okWide Try.prog W .any base t v := hval0
  have hW' := hW
  obtain ⟨p, q, hA0, hV, rfl, hfz, hnd⟩ := hW
  have hA : DataW.TrodAll enc Try.prog W 0 (fun _ => true) true Try.f4.params.toList args.toList ds p := hA0
  rw [Try.params4] at hA hval
  obtain ⟨v0, vs0, d0, ds0, p0, q0, hargs, rfl, rfl, h0, r0⟩ := trodAll_cons hA
  obtain ⟨rfl, rfl, rfl⟩ := trodAll_nil r0
  obtain rfl : args = #[v0] := by cases args; simp_all
  obtain ⟨rfl, rfl⟩ := trodVars_none hV
  have k0 := h0
  have lt0 : ∀ x ∈ p0, x.block < W.heap.size := by obtain ⟨m, hm⟩ := k0; exact DataW.trod_lt m _ _ _ hm
  obtain ⟨k_0, a_0, b_0, c_0, d_0, rfl, hk0, ha0, hb0, hc0, hd0⟩ := open_color (hval 0 25 v0 rfl rfl) h0
  clear hA0 hval0
  refine (FnNRGBA64Near_walk k_0 a_0 b_0 c_0 d_0 hk0.1 hk0.2 ha0.1 ha0.2 hb0.1 hb0.2 hc0.1 hc0.2 hd0.1 hd0.2 W).mono fun e W' ⟨he, bel⟩ => ?_
  subst he
  exact ⟨_, rfl, _, _, _, [], _, [], hW', trodAll_mk1 (shut_bool Try.underlying4 _), (trodAll_cons_mk (Below.trod laidOut (by kernel_rfl) (of_decide_eq_true (by kernel_rfl)) k0 bel lt0) trodAll_mk0), rfl, bel.frame _, fun h => by cases h⟩
theorem over : Rows.fnNRGBA64NearRow.holds Try.pinned (OpenSpec.ofChange Rows.fnNRGBA64NearSpec) :=
  OpenClaim.holds_of_wide 4 Try.f4 rfl rfl rfl rfl rfl rfl rfl ⟨rfl, rfl, rfl, rfl, rfl⟩ rfl rfl rfl rfl rfl (by kernel_rfl) Try.func4 (by kernel_rfl)
    (of_decide_eq_true (by kernel_rfl)) (by unfold Func.isWrapper; first | (rw [if_pos (by decide +kernel)]; kernel_rfl) | (rw [if_neg (by decide +kernel)]; exact ⟨rfl, rfl⟩))
    (fun os started H enc _ => lifted os started H enc)
end FnNRGBA64NearFrame
/-- THE STATEMENT. -/
theorem FnNRGBA64Near_holds : Rows.FnNRGBA64NearSaid := FnNRGBA64NearFrame.over
#print axioms FnNRGBA64Near_holds
end Go.Proofs.Ytkjcaiakcailnaa
