/- Of a color none of whose values is less than another color's gray is not less: FnGrayMonotone returns true for every two colors. No conditions. -/
import Derived.Test.YtmfjacbpcgcdjaaOpen
import Derived.Test.YtmfjacbpcgcdjaaConv
import Derived.Test.YtmfjacbpcgcdjaaValid
import Derived.Test.YtmfjacbpcgcdjaaHelp
import Derived.Test.YtmfjacbpcgcdjaaPlainLaws
import Derived.IntWalk
import Derived.Deep.DeepCutAuto
import Derived.Test.YtmfjacbpcgcdjaaPlainLaws2
import Derived.Test.YtmfjacbpcgcdjaaKeep
import Derived.Test.YtmfjacbpcgcdjaaBoxP
import Derived.Test.YtmfjacbpcgcdjaaBoxPP
import Derived.Deep.RegionHeld3
import Derived.Lib.MinMax
import Derived.WalkLawsBesides
namespace Go.Proofs.Ytmfjacbpcgcdjaa
open Go.ChangeShapes Go.WideShapes Go.ChangeAt Go.RowKit Plain
set_option linter.unusedVariables false

set_option maxRecDepth 100000 in
set_option maxHeartbeats 20000000 in
theorem FnGrayMonotone_walk (k a b c d : Int) (k' a' b' c' d' : Int) (hk0 : -9223372036854775808 ≤ k) (hk1 : k ≤ 9223372036854775807) (ha0 : 0 ≤ a) (ha1 : a ≤ 65535) (hb0 : 0 ≤ b) (hb1 : b ≤ 65535) (hc0 : 0 ≤ c) (hc1 : c ≤ 65535) (hd0 : 0 ≤ d) (hd1 : d ≤ 65535) (hk0' : -9223372036854775808 ≤ k') (hk1' : k' ≤ 9223372036854775807) (ha0' : 0 ≤ a') (ha1' : a' ≤ 65535) (hb0' : 0 ≤ b') (hb1' : b' ≤ 65535) (hc0' : 0 ≤ c') (hc1' : c' ≤ 65535) (hd0' : 0 ≤ d') (hd1' : d' ≤ 65535) (w : World) :
    Calls Try.prog 14 #[.agg #[.int .i64 k, .int .u16 a, .int .u16 b, .int .u16 c, .int .u16 d], .agg #[.int .i64 k', .int .u16 a', .int .u16 b', .int .u16 c', .int .u16 d']] w fun e w' => e = .returned (.bool true) ∧ Below w.heap.size w w' := by
  by_cases hv : valid k a b c d
  rotate_left
  · have V := Lib.hid (fun w => specValid_no k a b c d w ha0 ha1 hb0 hb1 hc0 hc1 hd0 hd1 hv)
    clear hv
    go_enter Try.func14, Try.ntmps14
    go_wp2_with fail
    refine (V.out _).mono ?_
    rintro e w1 ⟨rfl, b1⟩
    go_wp2_with fail
    go_ret
    exact ⟨rfl, by repeat (first | exact Below.refl _ _ | refine laterAlloc ?_ _ | refine Below.drew ?_ | refine below_drewN ?_ _ | refine later (by assumption) ?_)⟩
  by_cases hv' : valid k' a' b' c' d'
  rotate_left
  · have V := Lib.hid (fun w => specValid_yes k a b c d w hv)
    have V' := Lib.hid (fun w => specValid_no k' a' b' c' d' w ha0' ha1' hb0' hb1' hc0' hc1' hd0' hd1' hv')
    clear hv hv'
    go_enter Try.func14, Try.ntmps14
    go_wp2_with fail
    refine (V.out _).mono ?_
    rintro e w1 ⟨rfl, b1⟩
    have e0 : w1.cell? ⟨w.heap.size + 1, 0, none⟩ = some (.int .i64 k') := cell_later b1 (by simp [go_sem])
    have e1 : w1.cell? ⟨w.heap.size + 1, 1, none⟩ = some (.int .u16 a') := cell_later b1 (by simp [go_sem])
    have e2 : w1.cell? ⟨w.heap.size + 1, 2, none⟩ = some (.int .u16 b') := cell_later b1 (by simp [go_sem])
    have e3 : w1.cell? ⟨w.heap.size + 1, 3, none⟩ = some (.int .u16 c') := cell_later b1 (by simp [go_sem])
    have e4 : w1.cell? ⟨w.heap.size + 1, 4, none⟩ = some (.int .u16 d') := cell_later b1 (by simp [go_sem])
    have B1 : Below w.heap.size w w1 := later b1 (laterAlloc (laterAlloc (Below.refl _ _) _) _)
    clear b1
    go_wp2_with fail
    refine (V'.out _).mono ?_
    rintro e w2 ⟨rfl, b2⟩
    go_wp2_with fail
    go_ret
    exact ⟨rfl, later b2 B1⟩
  have V := Lib.hid (fun w => specValid_yes k a b c d w hv)
  have V' := Lib.hid (fun w => specValid_yes k' a' b' c' d' w hv')
  have rv := vals_range hv
  have rv' := vals_range hv'
  have m7 : vR k a b c d ≤ vR k' a' b' c' d' → vG k a b c d ≤ vG k' a' b' c' d' → vB k a b c d ≤ vB k' a' b' c' d' → cv0 7 k a b c d ≤ cv0 7 k' a' b' c' d' ∧ cv0 6 k a b c d ≤ cv0 6 k' a' b' c' d' := by
    intro l0 l1 l2
    rw [gray16_of hv, gray16_of hv', gray8_of hv, gray8_of hv']
    exact gray_mono l0 l1 l2
  have M := Lib.hid m7
  clear m7
  have hf1 : ∀ (x0 x1 x2 x3 x4 : Value) (w : World), (Instr.field 25 (.agg #[x0, x1, x2, x3, x4]) 1).run Try.prog w = .ok (.agg #[x1, x2, x3, x4]) w := fun _ _ _ _ _ _ => by kernel_rfl
  have ix0uint16 : ∀ (x0 x1 x2 x3 : Value) (w : World), (Instr.index 23 (.agg #[x0, x1, x2, x3]) (.int .i64 0)).run Try.prog w = .ok x0 w := fun _ _ _ _ _ => by kernel_rfl
  have x0 : ∀ w', Box2 w k a b c d k' a' b' c' d' w' → w'.cell? ⟨w.heap.size, 0, none⟩ = some (.int .i64 k) := fun _ h => h.1.c0
  have x1 : ∀ w', Box2 w k a b c d k' a' b' c' d' w' → w'.cell? ⟨w.heap.size, 1, none⟩ = some (.int .u16 a) := fun _ h => h.1.c1
  have x2 : ∀ w', Box2 w k a b c d k' a' b' c' d' w' → w'.cell? ⟨w.heap.size, 2, none⟩ = some (.int .u16 b) := fun _ h => h.1.c2
  have x3 : ∀ w', Box2 w k a b c d k' a' b' c' d' w' → w'.cell? ⟨w.heap.size, 3, none⟩ = some (.int .u16 c) := fun _ h => h.1.c3
  have x4 : ∀ w', Box2 w k a b c d k' a' b' c' d' w' → w'.cell? ⟨w.heap.size, 4, none⟩ = some (.int .u16 d) := fun _ h => h.1.c4
  have x0' : ∀ w', Box2 w k a b c d k' a' b' c' d' w' → w'.cell? ⟨w.heap.size + 1, 0, none⟩ = some (.int .i64 k') := fun _ h => h.2.c0
  have x1' : ∀ w', Box2 w k a b c d k' a' b' c' d' w' → w'.cell? ⟨w.heap.size + 1, 1, none⟩ = some (.int .u16 a') := fun _ h => h.2.c1
  have x2' : ∀ w', Box2 w k a b c d k' a' b' c' d' w' → w'.cell? ⟨w.heap.size + 1, 2, none⟩ = some (.int .u16 b') := fun _ h => h.2.c2
  have x3' : ∀ w', Box2 w k a b c d k' a' b' c' d' w' → w'.cell? ⟨w.heap.size + 1, 3, none⟩ = some (.int .u16 c') := fun _ h => h.2.c3
  have x4' : ∀ w', Box2 w k a b c d k' a' b' c' d' w' → w'.cell? ⟨w.heap.size + 1, 4, none⟩ = some (.int .u16 d') := fun _ h => h.2.c4
  go_enter Try.func14, Try.ntmps14
  go_wp2_with fail
  refine (V.out _).mono ?_
  rintro e w1 ⟨rfl, b1⟩
  have e0 : w1.cell? ⟨w.heap.size, 0, none⟩ = some (.int .i64 k) := cell_later b1 (by simp [go_sem])
  have e1 : w1.cell? ⟨w.heap.size, 1, none⟩ = some (.int .u16 a) := cell_later b1 (by simp [go_sem])
  have e2 : w1.cell? ⟨w.heap.size, 2, none⟩ = some (.int .u16 b) := cell_later b1 (by simp [go_sem])
  have e3 : w1.cell? ⟨w.heap.size, 3, none⟩ = some (.int .u16 c) := cell_later b1 (by simp [go_sem])
  have e4 : w1.cell? ⟨w.heap.size, 4, none⟩ = some (.int .u16 d) := cell_later b1 (by simp [go_sem])
  have e0' : w1.cell? ⟨w.heap.size + 1, 0, none⟩ = some (.int .i64 k') := cell_later b1 (by simp [go_sem])
  have e1' : w1.cell? ⟨w.heap.size + 1, 1, none⟩ = some (.int .u16 a') := cell_later b1 (by simp [go_sem])
  have e2' : w1.cell? ⟨w.heap.size + 1, 2, none⟩ = some (.int .u16 b') := cell_later b1 (by simp [go_sem])
  have e3' : w1.cell? ⟨w.heap.size + 1, 3, none⟩ = some (.int .u16 c') := cell_later b1 (by simp [go_sem])
  have e4' : w1.cell? ⟨w.heap.size + 1, 4, none⟩ = some (.int .u16 d') := cell_later b1 (by simp [go_sem])
  have B1 : Below w.heap.size w w1 := later b1 (laterAlloc (laterAlloc (Below.refl _ _) _) _)
  have hz : w.heap.size + 1 < w1.heap.size := by have := b1.size; simp at this; omega
  clear b1 V
  go_wp2_with fail
  refine (V'.out _).mono ?_
  rintro e w2 ⟨rfl, b2⟩
  have X0 : Box2 w k a b c d k' a' b' c' d' w2 := Box2.call b2 ⟨⟨B1, e0, e1, e2, e3, e4⟩, ⟨B1, e0', e1', e2', e3', e4'⟩⟩
  have hy : w.heap.size + 1 < w2.heap.size := Nat.lt_of_lt_of_le hz b2.size
  clear b2 e0 e1 e2 e3 e4 e0' e1' e2' e3' e4' B1 V' hz hk0 hk1 ha0 ha1 hb0 hb1 hc0 hc1 hd0 hd1 hk0' hk1' ha0' ha1' hb0' hb1' hc0' hc1' hd0' hd1'
  go_upto_region 3 with (fail)
  go_cut [5, 6] (fun v5 v6 wx => ∃ g h : Nat, v5 = .pointer (some ⟨g, 0, none⟩) ∧ v6 = .pointer (some ⟨h, 0, none⟩) ∧ Box2 w k a b c d k' a' b' c' d' wx ∧ wx.cell? ⟨g, 0, none⟩ = some (.int .u32 (vR k a b c d)) ∧ wx.cell? ⟨g, 1, none⟩ = some (.int .u32 (vG k a b c d)) ∧ wx.cell? ⟨g, 2, none⟩ = some (.int .u32 (vB k a b c d)) ∧ wx.cell? ⟨h, 0, none⟩ = some (.int .u32 (vR k' a' b' c' d')) ∧ wx.cell? ⟨h, 1, none⟩ = some (.int .u32 (vG k' a' b' c' d')) ∧ wx.cell? ⟨h, 2, none⟩ = some (.int .u32 (vB k' a' b' c' d')))
  case first =>
    clear rv rv'
    go_region_held3 (fun w' => Box2 w k a b c d k' a' b' c' d' w')
      (first | with_reducible assumption | with_reducible exact X0.drew | with_reducible exact Box2.call (by assumption) (by assumption) | with_reducible exact Box2.drew (Box2.up (Box2.undrew (by assumption))) | with_reducible exact (Box2.up (by assumption)) | with_reducible exact (Box2.up (Box2.down (by first | omega | (simp; omega)) (by assumption))) | with_reducible exact (Box2.up (Box2.up (Box2.down (by first | omega | (simp; omega)) (Box2.down (by first | omega | (simp; omega)) (by assumption))))) | with_reducible exact (Box2.set (by first | omega | (simp; omega)) (Box2.set (by first | omega | (simp; omega)) (Box2.set (by first | omega | (simp; omega)) (Box2.set (by first | omega | (simp; omega)) (by assumption))))) | with_reducible exact (Box2.up (Box2.set (by first | omega | (simp; omega)) (Box2.set (by first | omega | (simp; omega)) (Box2.set (by first | omega | (simp; omega)) (Box2.set (by first | omega | (simp; omega)) (Box2.down (by first | omega | (simp; omega)) (by assumption))))))))
      (first | (go_at_call 18; (with_reducible refine (implValues k a b c d _ hv).mono ?_); rintro e w' ⟨rfl, hb⟩; obtain ⟨cc, cf⟩ := bcell hb; have hzz := hb.size; (try simp at hzz); (try (first | have hz8 := Nat.lt_of_lt_of_le hz6 hzz | have hz8 := Nat.lt_trans hz6 hzz | have hz8 := Nat.lt_of_lt_of_le hz6 (Nat.le_of_succ_le hzz) | have hz8 := Nat.lt_of_lt_of_le hz6 (Nat.le_of_succ_le (Nat.le_of_succ_le hzz)))); (try (first | have hz9 := Nat.lt_of_lt_of_le hz7 hzz | have hz9 := Nat.lt_trans hz7 hzz | have hz9 := Nat.lt_of_lt_of_le hz7 (Nat.le_of_succ_le hzz) | have hz9 := Nat.lt_of_lt_of_le hz7 (Nat.le_of_succ_le (Nat.le_of_succ_le hzz)))); (try (first | have hz6 := Nat.lt_of_lt_of_le hz2 hzz | have hz6 := Nat.lt_trans hz2 hzz | have hz6 := Nat.lt_of_lt_of_le hz2 (Nat.le_of_succ_le hzz) | have hz6 := Nat.lt_of_lt_of_le hz2 (Nat.le_of_succ_le (Nat.le_of_succ_le hzz)))); (try (first | have hz7 := Nat.lt_of_lt_of_le hz3 hzz | have hz7 := Nat.lt_trans hz3 hzz | have hz7 := Nat.lt_of_lt_of_le hz3 (Nat.le_of_succ_le hzz) | have hz7 := Nat.lt_of_lt_of_le hz3 (Nat.le_of_succ_le (Nat.le_of_succ_le hzz)))); (try (have hz2 := Nat.lt_of_lt_of_le (Nat.lt_succ_self _) hzz)); (try (have hz3 := Nat.lt_of_succ_lt hz2)); (try (have hz2n := Nat.ne_of_lt hz2; have hz2m := Nat.ne_of_gt hz2)); (try (have hz3n := Nat.ne_of_lt hz3; have hz3m := Nat.ne_of_gt hz3)); (try (have hz6n := Nat.ne_of_lt hz6; have hz6m := Nat.ne_of_gt hz6)); (try (have hz7n := Nat.ne_of_lt hz7; have hz7m := Nat.ne_of_gt hz7)); (try (have hz8n := Nat.ne_of_lt hz8; have hz8m := Nat.ne_of_gt hz8)); (try (have hz9n := Nat.ne_of_lt hz9; have hz9m := Nat.ne_of_gt hz9))) | (go_at_call 18; (with_reducible refine (implValues k' a' b' c' d' _ hv').mono ?_); rintro e w' ⟨rfl, hb⟩; obtain ⟨cc, cf⟩ := bcell hb; have hzz := hb.size; (try simp at hzz); (try (first | have hz8 := Nat.lt_of_lt_of_le hz6 hzz | have hz8 := Nat.lt_trans hz6 hzz | have hz8 := Nat.lt_of_lt_of_le hz6 (Nat.le_of_succ_le hzz) | have hz8 := Nat.lt_of_lt_of_le hz6 (Nat.le_of_succ_le (Nat.le_of_succ_le hzz)))); (try (first | have hz9 := Nat.lt_of_lt_of_le hz7 hzz | have hz9 := Nat.lt_trans hz7 hzz | have hz9 := Nat.lt_of_lt_of_le hz7 (Nat.le_of_succ_le hzz) | have hz9 := Nat.lt_of_lt_of_le hz7 (Nat.le_of_succ_le (Nat.le_of_succ_le hzz)))); (try (first | have hz6 := Nat.lt_of_lt_of_le hz2 hzz | have hz6 := Nat.lt_trans hz2 hzz | have hz6 := Nat.lt_of_lt_of_le hz2 (Nat.le_of_succ_le hzz) | have hz6 := Nat.lt_of_lt_of_le hz2 (Nat.le_of_succ_le (Nat.le_of_succ_le hzz)))); (try (first | have hz7 := Nat.lt_of_lt_of_le hz3 hzz | have hz7 := Nat.lt_trans hz3 hzz | have hz7 := Nat.lt_of_lt_of_le hz3 (Nat.le_of_succ_le hzz) | have hz7 := Nat.lt_of_lt_of_le hz3 (Nat.le_of_succ_le (Nat.le_of_succ_le hzz)))); (try (have hz2 := Nat.lt_of_lt_of_le (Nat.lt_succ_self _) hzz)); (try (have hz3 := Nat.lt_of_succ_lt hz2)); (try (have hz2n := Nat.ne_of_lt hz2; have hz2m := Nat.ne_of_gt hz2)); (try (have hz3n := Nat.ne_of_lt hz3; have hz3m := Nat.ne_of_gt hz3)); (try (have hz6n := Nat.ne_of_lt hz6; have hz6m := Nat.ne_of_gt hz6)); (try (have hz7n := Nat.ne_of_lt hz7; have hz7m := Nat.ne_of_gt hz7)); (try (have hz8n := Nat.ne_of_lt hz8; have hz8m := Nat.ne_of_gt hz8)); (try (have hz9n := Nat.ne_of_lt hz9; have hz9m := Nat.ne_of_gt hz9))))
    all_goals (rename_i hH; go_wp2_with fail; go_meet; refine ⟨_, _, rfl, rfl, hH, ?_⟩; clear hH x0 x1 x2 x3 x4 x0' x1' x2' x3' x4'; refine ⟨?_, ?_, ?_, ?_, ?_, ?_⟩ <;> (first | (simp [go_sem, *]; done) | (simp (maxDischargeDepth := 12) [go_sem, *]; done)))
  case rest =>
    obtain ⟨g, h, rfl, rfl, Y0, g0, g1, g2, h0, h1, h2⟩ := hcut
    have hwc : w.heap.size + 1 < wc.heap.size := Y0.2.lt
    clear X0 hy
    by_cases l0 : vR k a b c d ≤ vR k' a' b' c' d'
    rotate_left
    · clear x0 x1 x2 x3 x4 x0' x1' x2' x3' x4'
      go_wp2_with fail
      go_ret
      exact ⟨rfl, Y0.below⟩
    by_cases l1 : vG k a b c d ≤ vG k' a' b' c' d'
    rotate_left
    · clear x0 x1 x2 x3 x4 x0' x1' x2' x3' x4'
      go_wp2_with fail
      go_ret
      exact ⟨rfl, Y0.below⟩
    by_cases l2 : vB k a b c d ≤ vB k' a' b' c' d'
    rotate_left
    · clear x0 x1 x2 x3 x4 x0' x1' x2' x3' x4'
      have e2 : decide (vB k' a' b' c' d' < vB k a b c d) = true := decide_eq_true (by omega)
      go_wp2_with fail
      go_ret
      exact ⟨rfl, Y0.below⟩
    obtain ⟨n7, n6⟩ := M.out l0 l1 l2
    clear M
    go_upto_region 6 with (fail)
    clear l0 l1 l2 g0 g1 g2 h0 h1 h2
    have X0 := Y0
    go_cut [7, 8] (fun v7 v8 wx => ∃ g h : Nat, v7 = .pointer (some ⟨g, 0, none⟩) ∧ v8 = .pointer (some ⟨h, 0, none⟩) ∧ Box2 w k a b c d k' a' b' c' d' wx ∧ wx.cell? ⟨g, 0, none⟩ = some (.int .i64 7) ∧ wx.cell? ⟨g, 1, none⟩ = some (.int .u16 (cv0 7 k a b c d)) ∧ wx.cell? ⟨h, 1, none⟩ = some (.int .u16 (cv0 7 k' a' b' c' d')))
    case first =>
      clear rv rv' n6 n7 Y0
      go_region_held3 (fun w' => Box2 w k a b c d k' a' b' c' d' w')
        (first | with_reducible assumption | with_reducible exact X0.drew | with_reducible exact Box2.call (by assumption) (by assumption) | with_reducible exact Box2.drew (Box2.up (Box2.undrew (by assumption))) | with_reducible exact (Box2.up (by assumption)) | with_reducible exact (Box2.up (Box2.down (by first | omega | (simp; omega)) (by assumption))) | with_reducible exact (Box2.up (Box2.up (Box2.down (by first | omega | (simp; omega)) (Box2.down (by first | omega | (simp; omega)) (by assumption))))) | with_reducible exact (Box2.set (by first | omega | (simp; omega)) (Box2.set (by first | omega | (simp; omega)) (Box2.set (by first | omega | (simp; omega)) (Box2.set (by first | omega | (simp; omega)) (Box2.set (by first | omega | (simp; omega)) (by assumption)))))) | with_reducible exact (Box2.up (Box2.set (by first | omega | (simp; omega)) (Box2.set (by first | omega | (simp; omega)) (Box2.set (by first | omega | (simp; omega)) (Box2.set (by first | omega | (simp; omega)) (Box2.set (by first | omega | (simp; omega)) (Box2.down (by first | omega | (simp; omega)) (by assumption)))))))))
        (first | (go_at_call 19; (with_reducible refine (implConvert 7 k a b c d _ (by omega) hv).mono ?_); rintro e w' ⟨rfl, hb⟩; obtain ⟨cc, cf⟩ := bcell hb; have hzz := hb.size; (try simp at hzz); (try (first | have hz8 := Nat.lt_of_lt_of_le hz6 hzz | have hz8 := Nat.lt_trans hz6 hzz | have hz8 := Nat.lt_of_lt_of_le hz6 (Nat.le_of_succ_le hzz) | have hz8 := Nat.lt_of_lt_of_le hz6 (Nat.le_of_succ_le (Nat.le_of_succ_le hzz)))); (try (first | have hz9 := Nat.lt_of_lt_of_le hz7 hzz | have hz9 := Nat.lt_trans hz7 hzz | have hz9 := Nat.lt_of_lt_of_le hz7 (Nat.le_of_succ_le hzz) | have hz9 := Nat.lt_of_lt_of_le hz7 (Nat.le_of_succ_le (Nat.le_of_succ_le hzz)))); (try (first | have hz6 := Nat.lt_of_lt_of_le hz2 hzz | have hz6 := Nat.lt_trans hz2 hzz | have hz6 := Nat.lt_of_lt_of_le hz2 (Nat.le_of_succ_le hzz) | have hz6 := Nat.lt_of_lt_of_le hz2 (Nat.le_of_succ_le (Nat.le_of_succ_le hzz)))); (try (first | have hz7 := Nat.lt_of_lt_of_le hz3 hzz | have hz7 := Nat.lt_trans hz3 hzz | have hz7 := Nat.lt_of_lt_of_le hz3 (Nat.le_of_succ_le hzz) | have hz7 := Nat.lt_of_lt_of_le hz3 (Nat.le_of_succ_le (Nat.le_of_succ_le hzz)))); (try (have hz2 := Nat.lt_of_lt_of_le (Nat.lt_succ_self _) hzz)); (try (have hz3 := Nat.lt_of_succ_lt hz2)); (try (have hz2n := Nat.ne_of_lt hz2; have hz2m := Nat.ne_of_gt hz2)); (try (have hz3n := Nat.ne_of_lt hz3; have hz3m := Nat.ne_of_gt hz3)); (try (have hz6n := Nat.ne_of_lt hz6; have hz6m := Nat.ne_of_gt hz6)); (try (have hz7n := Nat.ne_of_lt hz7; have hz7m := Nat.ne_of_gt hz7)); (try (have hz8n := Nat.ne_of_lt hz8; have hz8m := Nat.ne_of_gt hz8)); (try (have hz9n := Nat.ne_of_lt hz9; have hz9m := Nat.ne_of_gt hz9))) | (go_at_call 19; (with_reducible refine (implConvert 7 k' a' b' c' d' _ (by omega) hv').mono ?_); rintro e w' ⟨rfl, hb⟩; obtain ⟨cc, cf⟩ := bcell hb; have hzz := hb.size; (try simp at hzz); (try (first | have hz8 := Nat.lt_of_lt_of_le hz6 hzz | have hz8 := Nat.lt_trans hz6 hzz | have hz8 := Nat.lt_of_lt_of_le hz6 (Nat.le_of_succ_le hzz) | have hz8 := Nat.lt_of_lt_of_le hz6 (Nat.le_of_succ_le (Nat.le_of_succ_le hzz)))); (try (first | have hz9 := Nat.lt_of_lt_of_le hz7 hzz | have hz9 := Nat.lt_trans hz7 hzz | have hz9 := Nat.lt_of_lt_of_le hz7 (Nat.le_of_succ_le hzz) | have hz9 := Nat.lt_of_lt_of_le hz7 (Nat.le_of_succ_le (Nat.le_of_succ_le hzz)))); (try (first | have hz6 := Nat.lt_of_lt_of_le hz2 hzz | have hz6 := Nat.lt_trans hz2 hzz | have hz6 := Nat.lt_of_lt_of_le hz2 (Nat.le_of_succ_le hzz) | have hz6 := Nat.lt_of_lt_of_le hz2 (Nat.le_of_succ_le (Nat.le_of_succ_le hzz)))); (try (first | have hz7 := Nat.lt_of_lt_of_le hz3 hzz | have hz7 := Nat.lt_trans hz3 hzz | have hz7 := Nat.lt_of_lt_of_le hz3 (Nat.le_of_succ_le hzz) | have hz7 := Nat.lt_of_lt_of_le hz3 (Nat.le_of_succ_le (Nat.le_of_succ_le hzz)))); (try (have hz2 := Nat.lt_of_lt_of_le (Nat.lt_succ_self _) hzz)); (try (have hz3 := Nat.lt_of_succ_lt hz2)); (try (have hz2n := Nat.ne_of_lt hz2; have hz2m := Nat.ne_of_gt hz2)); (try (have hz3n := Nat.ne_of_lt hz3; have hz3m := Nat.ne_of_gt hz3)); (try (have hz6n := Nat.ne_of_lt hz6; have hz6m := Nat.ne_of_gt hz6)); (try (have hz7n := Nat.ne_of_lt hz7; have hz7m := Nat.ne_of_gt hz7)); (try (have hz8n := Nat.ne_of_lt hz8; have hz8m := Nat.ne_of_gt hz8)); (try (have hz9n := Nat.ne_of_lt hz9; have hz9m := Nat.ne_of_gt hz9))))
      all_goals (rename_i hH; go_wp2_with fail; go_meet; refine ⟨_, _, rfl, rfl, hH, ?_⟩; clear hH x0 x1 x2 x3 x4 x0' x1' x2' x3' x4'; refine ⟨?_, ?_, ?_⟩ <;> (first | (simp [go_sem, *]; done) | (simp (maxDischargeDepth := 12) [go_sem, *]; done)))
    case rest =>
      obtain ⟨g, h, rfl, rfl, Z0, g0, g1, h1⟩ := hcut
      clear rv rv' X0 Y0 hwc
      go_upto_region 7 with (fail)
      go_region_held3 (fun w' => Box2 w k a b c d k' a' b' c' d' w' ∧ w'.cell? ⟨g, 0, none⟩ = some (.int .i64 7) ∧ w'.cell? ⟨g, 1, none⟩ = some (.int .u16 (cv0 7 k a b c d)) ∧ w'.cell? ⟨h, 1, none⟩ = some (.int .u16 (cv0 7 k' a' b' c' d')))
        (first | exact ⟨Z0.drew, g0, g1, h1⟩ | assumption | exact keepB3 (by assumption) (by assumption))
        (first | (go_at_call 19; (with_reducible refine (implConvert 6 k a b c d _ (by omega) hv).mono ?_); rintro e w' ⟨rfl, hb⟩) | (go_at_call 19; (with_reducible refine (implConvert 6 k' a' b' c' d' _ (by omega) hv').mono ?_); rintro e w' ⟨rfl, hb⟩))
      all_goals (rename_i hH; go_wp2; go_ret; exact ⟨rfl, hH.1.below⟩)
/-! ### The row's step, for FnGrayMonotone. -/
namespace FnGrayMonotoneFrame
open Go.ChangeShapes Go.WideShapes Go.ChangeAt Go.RowKit
theorem own : ownKnob Try.prog.godebug = none := by kernel_rfl
theorem laidOut : laidOutB Try.prog = true := by kernel_rfl
set_option maxRecDepth 100000 in
theorem lifted (os : Os) (started : os.Started) (H : Type) (enc : TypeId × Value → H) :
    ReturnsInHanded {} Try.checked os 14 .any (Rows.fnGrayMonotoneSpec.pre6 enc Try.prog Try.f14 Rows.fnGrayMonotoneRow.domain false) (Rows.fnGrayMonotoneSpec.post enc Try.prog Try.f14 false true false false) := by
  refine returnsInHanded_of_change (C := Try.checked) own started (by kernel_rfl) Try.func14
    (ChangeSpec.witness6 (enc := enc) (C := Try.checked) false ⟨#[], #[.agg #[.int .i64 0, .int .u16 0, .int .u16 0, .int .u16 0, .int .u16 0], .agg #[.int .i64 0, .int .u16 0, .int .u16 0, .int .u16 0, .int .u16 0]], []⟩ 8 (by kernel_rfl) (by kernel_rfl) (by kernel_rfl) (by kernel_rfl)) ?_
  intro W base args ds gs before hval0 hW hcnd _
  have hval : ∀ (j : Nat) t v, Try.f14.params[j]? = some t → args[j]? = some v → Value.okWide Try.prog W .any base t v := hval0
  have hW' := hW
  obtain ⟨p, q, hA0, hV, rfl, hfz, hnd⟩ := hW
  have hA : DataW.TrodAll enc Try.prog W 0 (fun _ => true) true Try.f14.params.toList args.toList ds p := hA0
  rw [Try.params14] at hA hval
  obtain ⟨v0, vs0, d0, ds0, p0, q0, hargs, rfl, rfl, h0, r0⟩ := trodAll_cons hA
  obtain ⟨v1, vs1, d1, ds1, p1, q1, rfl, rfl, rfl, h1, r1⟩ := trodAll_cons r0
  obtain ⟨rfl, rfl, rfl⟩ := trodAll_nil r1
  obtain rfl : args = #[v0, v1] := by cases args; simp_all
  obtain ⟨rfl, rfl⟩ := trodVars_none hV
  have k0 := h0
  have lt0 : ∀ x ∈ p0, x.block < W.heap.size := by obtain ⟨m, hm⟩ := k0; exact DataW.trod_lt m _ _ _ hm
  obtain ⟨k_0, a_0, b_0, c_0, d_0, rfl, hk0, ha0, hb0, hc0, hd0⟩ := open_color (hval 0 25 v0 rfl rfl) h0
  have k1 := h1
  have lt1 : ∀ x ∈ p1, x.block < W.heap.size := by obtain ⟨m, hm⟩ := k1; exact DataW.trod_lt m _ _ _ hm
  obtain ⟨k_1, a_1, b_1, c_1, d_1, rfl, hk1, ha1, hb1, hc1, hd1⟩ := open_color (hval 1 25 v1 rfl rfl) h1
  clear hA0 hval0
  refine (FnGrayMonotone_walk k_0 a_0 b_0 c_0 d_0 k_1 a_1 b_1 c_1 d_1 hk0.1 hk0.2 ha0.1 ha0.2 hb0.1 hb0.2 hc0.1 hc0.2 hd0.1 hd0.2 hk1.1 hk1.2 ha1.1 ha1.2 hb1.1 hb1.2 hc1.1 hc1.2 hd1.1 hd1.2 W).mono fun e W' ⟨he, bel⟩ => ?_
  subst he
  exact ⟨_, rfl, _, _, _, [], _, [], hW', trodAll_mk1 (shut_bool Try.underlying4 _), (trodAll_cons_mk (Below.trod laidOut (by kernel_rfl) (of_decide_eq_true (by kernel_rfl)) k0 bel lt0) (trodAll_cons_mk (Below.trod laidOut (by kernel_rfl) (of_decide_eq_true (by kernel_rfl)) k1 bel lt1) trodAll_mk0)), rfl, bel.frame _, fun h => by cases h⟩
theorem over : Rows.fnGrayMonotoneRow.holds Try.pinned (OpenSpec.ofChange Rows.fnGrayMonotoneSpec) :=
  OpenClaim.holds_of_wide 14 Try.f14 rfl rfl rfl rfl rfl rfl rfl ⟨rfl, rfl, rfl, rfl, rfl⟩ rfl rfl rfl rfl rfl (by kernel_rfl) Try.func14 (by kernel_rfl)
    (of_decide_eq_true (by kernel_rfl)) (by unfold Func.isWrapper; first | (rw [if_pos (by decide +kernel)]; kernel_rfl) | (rw [if_neg (by decide +kernel)]; exact ⟨rfl, rfl⟩))
    (fun os started H enc _ => lifted os started H enc)
end FnGrayMonotoneFrame
/-- THE STATEMENT. -/
theorem FnGrayMonotone_holds : Rows.FnGrayMonotoneSaid := FnGrayMonotoneFrame.over
#print axioms FnGrayMonotone_holds
end Go.Proofs.Ytmfjacbpcgcdjaa
