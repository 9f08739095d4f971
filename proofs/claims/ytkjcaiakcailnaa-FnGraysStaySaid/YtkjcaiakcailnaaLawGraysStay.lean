/- A gray of 16 bits keeps its values in the models of 16 bits, and a gray of 8 bits in those of 8 bits: FnGraysStay returns true for every gray and every number. No conditions. -/
import Derived.Test.YtkjcaiakcailnaaOpen
import Derived.Test.YtkjcaiakcailnaaConv
import Derived.Test.YtkjcaiakcailnaaValid
import Derived.Test.YtkjcaiakcailnaaHelp
import Derived.Test.YtkjcaiakcailnaaPlainLaws
import Derived.IntWalk
import Derived.Deep.DeepCutAuto
import Derived.Test.YtkjcaiakcailnaaPlainLaws2
import Derived.Test.YtkjcaiakcailnaaPlainLaws3
import Derived.Test.YtkjcaiakcailnaaKeep
import Derived.Test.YtkjcaiakcailnaaBoxP
import Derived.Deep.RegionHeld3
import Derived.Lib.MinMax
import Derived.WalkLawsBesides
namespace Go.Proofs.Ytkjcaiakcailnaa
open Go.ChangeShapes Go.WideShapes Go.ChangeAt Go.RowKit Plain
set_option linter.unusedVariables false

set_option maxRecDepth 100000 in
set_option maxHeartbeats 4000000 in
theorem FnGraysStay_walk (a0 : Int) (m : Int) (h0 : 0 ≤ a0) (g0 : a0 ≤ 65535) (hm0 : -9223372036854775808 ≤ m) (hm1 : m ≤ 9223372036854775807) (w : World) :
    Calls Try.prog 3 #[.int .u16 a0, .int .i64 m] w fun e w' => e = .returned (.bool true) ∧ Below w.heap.size w w' := by
  have hq := eqArr4
  by_cases h16 : m = 1 ∨ m = 3 ∨ m = 7
  · have hz0 := h0
    have hz1 := g0
    have hv : valid 7 a0 0 0 0 := by unfold valid proper; omega
    have V1 := Lib.hid (fun w => implValues 7 a0 0 0 0 w hv)
    rw [show vR 7 a0 0 0 0 = a0 from rfl, show vG 7 a0 0 0 0 = a0 from rfl, show vB 7 a0 0 0 0 = a0 from rfl, show vA 7 a0 0 0 0 = 65535 from rfl] at V1
    rcases h16 with rfl | rfl | rfl
    · have hcv : valid 1 (cv0 1 7 a0 0 0 0) (cv1 1 7 a0 0 0 0) (cv2 1 7 a0 0 0 0) (cv3 1 7 a0 0 0 0) := cv_valid (by omega) hv
      have CM := Lib.hid (fun w => implConvert 1 7 a0 0 0 0 w (by omega) hv)
      have VC := Lib.hid (fun w => implValues 1 (cv0 1 7 a0 0 0 0) (cv1 1 7 a0 0 0 0) (cv2 1 7 a0 0 0 0) (cv3 1 7 a0 0 0 0) w hcv)
      obtain ⟨s0, s1, s2, s3⟩ := gray16_stays (m := 1) (by omega) hz0 hz1
      unfold wR at s0
      unfold wG at s1
      unfold wB at s2
      unfold wA at s3
      rw [s0, s1, s2, s3] at VC
      clear s0 s1 s2 s3 hcv hv
      go_enter Try.func3, Try.ntmps3
      go_upto_region 7 with (fail)
      generalize hW : World.alloc _ _ = W
      have BB : Below w.heap.size w W := by subst hW; exact laterAlloc (laterAlloc (Below.refl _ _) _) _
      have d0 : W.cell? ⟨w.heap.size, 0, none⟩ = some (.int .i64 7) := by subst hW; simp [go_sem]
      have d1 : W.cell? ⟨w.heap.size, 1, none⟩ = some (.int .u16 a0) := by subst hW; simp [go_sem]
      have d2 : W.cell? ⟨w.heap.size, 2, none⟩ = some (.int .u16 0) := by subst hW; simp [go_sem]
      have d3 : W.cell? ⟨w.heap.size, 3, none⟩ = some (.int .u16 0) := by subst hW; simp [go_sem]
      have d4 : W.cell? ⟨w.heap.size, 4, none⟩ = some (.int .u16 0) := by subst hW; simp [go_sem]
      have h0 : W.cell? ⟨w.heap.size + 1, 0, none⟩ = some (.int .u32 a0) := by subst hW; simp [go_sem]
      have h1 : W.cell? ⟨w.heap.size + 1, 1, none⟩ = some (.int .u32 a0) := by subst hW; simp [go_sem]
      have h2 : W.cell? ⟨w.heap.size + 1, 2, none⟩ = some (.int .u32 a0) := by subst hW; simp [go_sem]
      have h3 : W.cell? ⟨w.heap.size + 1, 3, none⟩ = some (.int .u32 65535) := by subst hW; simp [go_sem]
      clear hW
      go_region_held3 (fun w' => Below w.heap.size w w' ∧ w'.cell? ⟨w.heap.size, 0, none⟩ = some (.int .i64 7) ∧ w'.cell? ⟨w.heap.size, 1, none⟩ = some (.int .u16 a0) ∧ w'.cell? ⟨w.heap.size, 2, none⟩ = some (.int .u16 0) ∧ w'.cell? ⟨w.heap.size, 3, none⟩ = some (.int .u16 0) ∧ w'.cell? ⟨w.heap.size, 4, none⟩ = some (.int .u16 0) ∧ w'.cell? ⟨w.heap.size + 1, 0, none⟩ = some (.int .u32 a0) ∧ w'.cell? ⟨w.heap.size + 1, 1, none⟩ = some (.int .u32 a0) ∧ w'.cell? ⟨w.heap.size + 1, 2, none⟩ = some (.int .u32 a0) ∧ w'.cell? ⟨w.heap.size + 1, 3, none⟩ = some (.int .u32 65535))
        (first | exact ⟨BB.drew, d0, d1, d2, d3, d4, h0, h1, h2, h3⟩ | assumption | exact keep9 (by assumption) (by assumption))
        (first | (go_at_call 10; refine (CM.out _).mono ?_; rintro e w' ⟨rfl, hb⟩) | (go_at_call 9; (with_reducible refine (V1.out _).mono ?_); rintro e w' ⟨rfl, hb⟩) | (go_at_call 9; (with_reducible refine (VC.out _).mono ?_); rintro e w' ⟨rfl, hb⟩))
      all_goals (rename_i hH; go_wp2; go_ret; exact ⟨rfl, hH.1⟩)
    · have hcv : valid 3 (cv0 3 7 a0 0 0 0) (cv1 3 7 a0 0 0 0) (cv2 3 7 a0 0 0 0) (cv3 3 7 a0 0 0 0) := cv_valid (by omega) hv
      have CM := Lib.hid (fun w => implConvert 3 7 a0 0 0 0 w (by omega) hv)
      have VC := Lib.hid (fun w => implValues 3 (cv0 3 7 a0 0 0 0) (cv1 3 7 a0 0 0 0) (cv2 3 7 a0 0 0 0) (cv3 3 7 a0 0 0 0) w hcv)
      obtain ⟨s0, s1, s2, s3⟩ := gray16_stays (m := 3) (by omega) hz0 hz1
      unfold wR at s0
      unfold wG at s1
      unfold wB at s2
      unfold wA at s3
      rw [s0, s1, s2, s3] at VC
      clear s0 s1 s2 s3 hcv hv
      go_enter Try.func3, Try.ntmps3
      go_upto_region 7 with (fail)
      generalize hW : World.alloc _ _ = W
      have BB : Below w.heap.size w W := by subst hW; exact laterAlloc (laterAlloc (Below.refl _ _) _) _
      have d0 : W.cell? ⟨w.heap.size, 0, none⟩ = some (.int .i64 7) := by subst hW; simp [go_sem]
      have d1 : W.cell? ⟨w.heap.size, 1, none⟩ = some (.int .u16 a0) := by subst hW; simp [go_sem]
      have d2 : W.cell? ⟨w.heap.size, 2, none⟩ = some (.int .u16 0) := by subst hW; simp [go_sem]
      have d3 : W.cell? ⟨w.heap.size, 3, none⟩ = some (.int .u16 0) := by subst hW; simp [go_sem]
      have d4 : W.cell? ⟨w.heap.size, 4, none⟩ = some (.int .u16 0) := by subst hW; simp [go_sem]
      have h0 : W.cell? ⟨w.heap.size + 1, 0, none⟩ = some (.int .u32 a0) := by subst hW; simp [go_sem]
      have h1 : W.cell? ⟨w.heap.size + 1, 1, none⟩ = some (.int .u32 a0) := by subst hW; simp [go_sem]
      have h2 : W.cell? ⟨w.heap.size + 1, 2, none⟩ = some (.int .u32 a0) := by subst hW; simp [go_sem]
      have h3 : W.cell? ⟨w.heap.size + 1, 3, none⟩ = some (.int .u32 65535) := by subst hW; simp [go_sem]
      clear hW
      go_region_held3 (fun w' => Below w.heap.size w w' ∧ w'.cell? ⟨w.heap.size, 0, none⟩ = some (.int .i64 7) ∧ w'.cell? ⟨w.heap.size, 1, none⟩ = some (.int .u16 a0) ∧ w'.cell? ⟨w.heap.size, 2, none⟩ = some (.int .u16 0) ∧ w'.cell? ⟨w.heap.size, 3, none⟩ = some (.int .u16 0) ∧ w'.cell? ⟨w.heap.size, 4, none⟩ = some (.int .u16 0) ∧ w'.cell? ⟨w.heap.size + 1, 0, none⟩ = some (.int .u32 a0) ∧ w'.cell? ⟨w.heap.size + 1, 1, none⟩ = some (.int .u32 a0) ∧ w'.cell? ⟨w.heap.size + 1, 2, none⟩ = some (.int .u32 a0) ∧ w'.cell? ⟨w.heap.size + 1, 3, none⟩ = some (.int .u32 65535))
        (first | exact ⟨BB.drew, d0, d1, d2, d3, d4, h0, h1, h2, h3⟩ | assumption | exact keep9 (by assumption) (by assumption))
        (first | (go_at_call 10; refine (CM.out _).mono ?_; rintro e w' ⟨rfl, hb⟩) | (go_at_call 9; (with_reducible refine (V1.out _).mono ?_); rintro e w' ⟨rfl, hb⟩) | (go_at_call 9; (with_reducible refine (VC.out _).mono ?_); rintro e w' ⟨rfl, hb⟩))
      all_goals (rename_i hH; go_wp2; go_ret; exact ⟨rfl, hH.1⟩)
    · have hcv : valid 7 (cv0 7 7 a0 0 0 0) (cv1 7 7 a0 0 0 0) (cv2 7 7 a0 0 0 0) (cv3 7 7 a0 0 0 0) := cv_valid (by omega) hv
      have CM := Lib.hid (fun w => implConvert 7 7 a0 0 0 0 w (by omega) hv)
      have VC := Lib.hid (fun w => implValues 7 (cv0 7 7 a0 0 0 0) (cv1 7 7 a0 0 0 0) (cv2 7 7 a0 0 0 0) (cv3 7 7 a0 0 0 0) w hcv)
      obtain ⟨s0, s1, s2, s3⟩ := gray16_stays (m := 7) (by omega) hz0 hz1
      unfold wR at s0
      unfold wG at s1
      unfold wB at s2
      unfold wA at s3
      rw [s0, s1, s2, s3] at VC
      clear s0 s1 s2 s3 hcv hv
      go_enter Try.func3, Try.ntmps3
      go_upto_region 7 with (fail)
      generalize hW : World.alloc _ _ = W
      have BB : Below w.heap.size w W := by subst hW; exact laterAlloc (laterAlloc (Below.refl _ _) _) _
      have d0 : W.cell? ⟨w.heap.size, 0, none⟩ = some (.int .i64 7) := by subst hW; simp [go_sem]
      have d1 : W.cell? ⟨w.heap.size, 1, none⟩ = some (.int .u16 a0) := by subst hW; simp [go_sem]
      have d2 : W.cell? ⟨w.heap.size, 2, none⟩ = some (.int .u16 0) := by subst hW; simp [go_sem]
      have d3 : W.cell? ⟨w.heap.size, 3, none⟩ = some (.int .u16 0) := by subst hW; simp [go_sem]
      have d4 : W.cell? ⟨w.heap.size, 4, none⟩ = some (.int .u16 0) := by subst hW; simp [go_sem]
      have h0 : W.cell? ⟨w.heap.size + 1, 0, none⟩ = some (.int .u32 a0) := by subst hW; simp [go_sem]
      have h1 : W.cell? ⟨w.heap.size + 1, 1, none⟩ = some (.int .u32 a0) := by subst hW; simp [go_sem]
      have h2 : W.cell? ⟨w.heap.size + 1, 2, none⟩ = some (.int .u32 a0) := by subst hW; simp [go_sem]
      have h3 : W.cell? ⟨w.heap.size + 1, 3, none⟩ = some (.int .u32 65535) := by subst hW; simp [go_sem]
      clear hW
      go_region_held3 (fun w' => Below w.heap.size w w' ∧ w'.cell? ⟨w.heap.size, 0, none⟩ = some (.int .i64 7) ∧ w'.cell? ⟨w.heap.size, 1, none⟩ = some (.int .u16 a0) ∧ w'.cell? ⟨w.heap.size, 2, none⟩ = some (.int .u16 0) ∧ w'.cell? ⟨w.heap.size, 3, none⟩ = some (.int .u16 0) ∧ w'.cell? ⟨w.heap.size, 4, none⟩ = some (.int .u16 0) ∧ w'.cell? ⟨w.heap.size + 1, 0, none⟩ = some (.int .u32 a0) ∧ w'.cell? ⟨w.heap.size + 1, 1, none⟩ = some (.int .u32 a0) ∧ w'.cell? ⟨w.heap.size + 1, 2, none⟩ = some (.int .u32 a0) ∧ w'.cell? ⟨w.heap.size + 1, 3, none⟩ = some (.int .u32 65535))
        (first | exact ⟨BB.drew, d0, d1, d2, d3, d4, h0, h1, h2, h3⟩ | assumption | exact keep9 (by assumption) (by assumption))
        (first | (go_at_call 10; refine (CM.out _).mono ?_; rintro e w' ⟨rfl, hb⟩) | (go_at_call 9; (with_reducible refine (V1.out _).mono ?_); rintro e w' ⟨rfl, hb⟩) | (go_at_call 9; (with_reducible refine (VC.out _).mono ?_); rintro e w' ⟨rfl, hb⟩))
      all_goals (rename_i hH; go_wp2; go_ret; exact ⟨rfl, hH.1⟩)
  by_cases h8 : m = 0 ∨ m = 2 ∨ m = 6 ∨ m = 9 ∨ m = 10
  · have hz0 : 0 ≤ a0 % 256 := by omega
    have hz1 : a0 % 256 ≤ 255 := by omega
    have hv : valid 6 (a0 % 256) 0 0 0 := by unfold valid proper; omega
    have V1 := Lib.hid (fun w => implValues 6 (a0 % 256) 0 0 0 w hv)
    rw [show vR 6 (a0 % 256) 0 0 0 = a0 % 256 * 257 from rfl, show vG 6 (a0 % 256) 0 0 0 = a0 % 256 * 257 from rfl, show vB 6 (a0 % 256) 0 0 0 = a0 % 256 * 257 from rfl, show vA 6 (a0 % 256) 0 0 0 = 65535 from rfl] at V1
    clear h16
    rcases h8 with rfl | rfl | rfl | rfl | rfl
    · have hcv : valid 0 (cv0 0 6 (a0 % 256) 0 0 0) (cv1 0 6 (a0 % 256) 0 0 0) (cv2 0 6 (a0 % 256) 0 0 0) (cv3 0 6 (a0 % 256) 0 0 0) := cv_valid (by omega) hv
      have CM := Lib.hid (fun w => implConvert 0 6 (a0 % 256) 0 0 0 w (by omega) hv)
      have VC := Lib.hid (fun w => implValues 0 (cv0 0 6 (a0 % 256) 0 0 0) (cv1 0 6 (a0 % 256) 0 0 0) (cv2 0 6 (a0 % 256) 0 0 0) (cv3 0 6 (a0 % 256) 0 0 0) w hcv)
      obtain ⟨s0, s1, s2, s3⟩ := gray8_stays (m := 0) (by omega) hz0 hz1
      unfold wR at s0
      unfold wG at s1
      unfold wB at s2
      unfold wA at s3
      rw [s0, s1, s2, s3] at VC
      clear s0 s1 s2 s3 hcv hv
      go_enter Try.func3, Try.ntmps3
      go_upto_region 16 with (fail)
      generalize hW : World.alloc _ _ = W
      have BB : Below w.heap.size w W := by subst hW; exact laterAlloc (laterAlloc (Below.refl _ _) _) _
      have d0 : W.cell? ⟨w.heap.size, 0, none⟩ = some (.int .i64 6) := by subst hW; simp [go_sem]
      have d1 : W.cell? ⟨w.heap.size, 1, none⟩ = some (.int .u16 (a0 % 256)) := by subst hW; simp [go_sem]
      have d2 : W.cell? ⟨w.heap.size, 2, none⟩ = some (.int .u16 0) := by subst hW; simp [go_sem]
      have d3 : W.cell? ⟨w.heap.size, 3, none⟩ = some (.int .u16 0) := by subst hW; simp [go_sem]
      have d4 : W.cell? ⟨w.heap.size, 4, none⟩ = some (.int .u16 0) := by subst hW; simp [go_sem]
      have h0 : W.cell? ⟨w.heap.size + 1, 0, none⟩ = some (.int .u32 (a0 % 256 * 257)) := by subst hW; simp [go_sem]
      have h1 : W.cell? ⟨w.heap.size + 1, 1, none⟩ = some (.int .u32 (a0 % 256 * 257)) := by subst hW; simp [go_sem]
      have h2 : W.cell? ⟨w.heap.size + 1, 2, none⟩ = some (.int .u32 (a0 % 256 * 257)) := by subst hW; simp [go_sem]
      have h3 : W.cell? ⟨w.heap.size + 1, 3, none⟩ = some (.int .u32 65535) := by subst hW; simp [go_sem]
      clear hW
      go_region_held3 (fun w' => Below w.heap.size w w' ∧ w'.cell? ⟨w.heap.size, 0, none⟩ = some (.int .i64 6) ∧ w'.cell? ⟨w.heap.size, 1, none⟩ = some (.int .u16 (a0 % 256)) ∧ w'.cell? ⟨w.heap.size, 2, none⟩ = some (.int .u16 0) ∧ w'.cell? ⟨w.heap.size, 3, none⟩ = some (.int .u16 0) ∧ w'.cell? ⟨w.heap.size, 4, none⟩ = some (.int .u16 0) ∧ w'.cell? ⟨w.heap.size + 1, 0, none⟩ = some (.int .u32 (a0 % 256 * 257)) ∧ w'.cell? ⟨w.heap.size + 1, 1, none⟩ = some (.int .u32 (a0 % 256 * 257)) ∧ w'.cell? ⟨w.heap.size + 1, 2, none⟩ = some (.int .u32 (a0 % 256 * 257)) ∧ w'.cell? ⟨w.heap.size + 1, 3, none⟩ = some (.int .u32 65535))
        (first | exact ⟨BB.drew, d0, d1, d2, d3, d4, h0, h1, h2, h3⟩ | assumption | exact keep9 (by assumption) (by assumption))
        (first | (go_at_call 10; refine (CM.out _).mono ?_; rintro e w' ⟨rfl, hb⟩) | (go_at_call 9; (with_reducible refine (V1.out _).mono ?_); rintro e w' ⟨rfl, hb⟩) | (go_at_call 9; (with_reducible refine (VC.out _).mono ?_); rintro e w' ⟨rfl, hb⟩))
      all_goals (rename_i hH; go_wp2; go_ret; exact ⟨rfl, hH.1⟩)
    · have hcv : valid 2 (cv0 2 6 (a0 % 256) 0 0 0) (cv1 2 6 (a0 % 256) 0 0 0) (cv2 2 6 (a0 % 256) 0 0 0) (cv3 2 6 (a0 % 256) 0 0 0) := cv_valid (by omega) hv
      have CM := Lib.hid (fun w => implConvert 2 6 (a0 % 256) 0 0 0 w (by omega) hv)
      have VC := Lib.hid (fun w => implValues 2 (cv0 2 6 (a0 % 256) 0 0 0) (cv1 2 6 (a0 % 256) 0 0 0) (cv2 2 6 (a0 % 256) 0 0 0) (cv3 2 6 (a0 % 256) 0 0 0) w hcv)
      obtain ⟨s0, s1, s2, s3⟩ := gray8_stays (m := 2) (by omega) hz0 hz1
      unfold wR at s0
      unfold wG at s1
      unfold wB at s2
      unfold wA at s3
      rw [s0, s1, s2, s3] at VC
      clear s0 s1 s2 s3 hcv hv
      go_enter Try.func3, Try.ntmps3
      go_upto_region 16 with (fail)
      generalize hW : World.alloc _ _ = W
      have BB : Below w.heap.size w W := by subst hW; exact laterAlloc (laterAlloc (Below.refl _ _) _) _
      have d0 : W.cell? ⟨w.heap.size, 0, none⟩ = some (.int .i64 6) := by subst hW; simp [go_sem]
      have d1 : W.cell? ⟨w.heap.size, 1, none⟩ = some (.int .u16 (a0 % 256)) := by subst hW; simp [go_sem]
      have d2 : W.cell? ⟨w.heap.size, 2, none⟩ = some (.int .u16 0) := by subst hW; simp [go_sem]
      have d3 : W.cell? ⟨w.heap.size, 3, none⟩ = some (.int .u16 0) := by subst hW; simp [go_sem]
      have d4 : W.cell? ⟨w.heap.size, 4, none⟩ = some (.int .u16 0) := by subst hW; simp [go_sem]
      have h0 : W.cell? ⟨w.heap.size + 1, 0, none⟩ = some (.int .u32 (a0 % 256 * 257)) := by subst hW; simp [go_sem]
      have h1 : W.cell? ⟨w.heap.size + 1, 1, none⟩ = some (.int .u32 (a0 % 256 * 257)) := by subst hW; simp [go_sem]
      have h2 : W.cell? ⟨w.heap.size + 1, 2, none⟩ = some (.int .u32 (a0 % 256 * 257)) := by subst hW; simp [go_sem]
      have h3 : W.cell? ⟨w.heap.size + 1, 3, none⟩ = some (.int .u32 65535) := by subst hW; simp [go_sem]
      clear hW
      go_region_held3 (fun w' => Below w.heap.size w w' ∧ w'.cell? ⟨w.heap.size, 0, none⟩ = some (.int .i64 6) ∧ w'.cell? ⟨w.heap.size, 1, none⟩ = some (.int .u16 (a0 % 256)) ∧ w'.cell? ⟨w.heap.size, 2, none⟩ = some (.int .u16 0) ∧ w'.cell? ⟨w.heap.size, 3, none⟩ = some (.int .u16 0) ∧ w'.cell? ⟨w.heap.size, 4, none⟩ = some (.int .u16 0) ∧ w'.cell? ⟨w.heap.size + 1, 0, none⟩ = some (.int .u32 (a0 % 256 * 257)) ∧ w'.cell? ⟨w.heap.size + 1, 1, none⟩ = some (.int .u32 (a0 % 256 * 257)) ∧ w'.cell? ⟨w.heap.size + 1, 2, none⟩ = some (.int .u32 (a0 % 256 * 257)) ∧ w'.cell? ⟨w.heap.size + 1, 3, none⟩ = some (.int .u32 65535))
        (first | exact ⟨BB.drew, d0, d1, d2, d3, d4, h0, h1, h2, h3⟩ | assumption | exact keep9 (by assumption) (by assumption))
        (first | (go_at_call 10; refine (CM.out _).mono ?_; rintro e w' ⟨rfl, hb⟩) | (go_at_call 9; (with_reducible refine (V1.out _).mono ?_); rintro e w' ⟨rfl, hb⟩) | (go_at_call 9; (with_reducible refine (VC.out _).mono ?_); rintro e w' ⟨rfl, hb⟩))
      all_goals (rename_i hH; go_wp2; go_ret; exact ⟨rfl, hH.1⟩)
    · have hcv : valid 6 (cv0 6 6 (a0 % 256) 0 0 0) (cv1 6 6 (a0 % 256) 0 0 0) (cv2 6 6 (a0 % 256) 0 0 0) (cv3 6 6 (a0 % 256) 0 0 0) := cv_valid (by omega) hv
      have CM := Lib.hid (fun w => implConvert 6 6 (a0 % 256) 0 0 0 w (by omega) hv)
      have VC := Lib.hid (fun w => implValues 6 (cv0 6 6 (a0 % 256) 0 0 0) (cv1 6 6 (a0 % 256) 0 0 0) (cv2 6 6 (a0 % 256) 0 0 0) (cv3 6 6 (a0 % 256) 0 0 0) w hcv)
      obtain ⟨s0, s1, s2, s3⟩ := gray8_stays (m := 6) (by omega) hz0 hz1
      unfold wR at s0
      unfold wG at s1
      unfold wB at s2
      unfold wA at s3
      rw [s0, s1, s2, s3] at VC
      clear s0 s1 s2 s3 hcv hv
      go_enter Try.func3, Try.ntmps3
      go_upto_region 16 with (fail)
      generalize hW : World.alloc _ _ = W
      have BB : Below w.heap.size w W := by subst hW; exact laterAlloc (laterAlloc (Below.refl _ _) _) _
      have d0 : W.cell? ⟨w.heap.size, 0, none⟩ = some (.int .i64 6) := by subst hW; simp [go_sem]
      have d1 : W.cell? ⟨w.heap.size, 1, none⟩ = some (.int .u16 (a0 % 256)) := by subst hW; simp [go_sem]
      have d2 : W.cell? ⟨w.heap.size, 2, none⟩ = some (.int .u16 0) := by subst hW; simp [go_sem]
      have d3 : W.cell? ⟨w.heap.size, 3, none⟩ = some (.int .u16 0) := by subst hW; simp [go_sem]
      have d4 : W.cell? ⟨w.heap.size, 4, none⟩ = some (.int .u16 0) := by subst hW; simp [go_sem]
      have h0 : W.cell? ⟨w.heap.size + 1, 0, none⟩ = some (.int .u32 (a0 % 256 * 257)) := by subst hW; simp [go_sem]
      have h1 : W.cell? ⟨w.heap.size + 1, 1, none⟩ = some (.int .u32 (a0 % 256 * 257)) := by subst hW; simp [go_sem]
      have h2 : W.cell? ⟨w.heap.size + 1, 2, none⟩ = some (.int .u32 (a0 % 256 * 257)) := by subst hW; simp [go_sem]
      have h3 : W.cell? ⟨w.heap.size + 1, 3, none⟩ = some (.int .u32 65535) := by subst hW; simp [go_sem]
      clear hW
      go_region_held3 (fun w' => Below w.heap.size w w' ∧ w'.cell? ⟨w.heap.size, 0, none⟩ = some (.int .i64 6) ∧ w'.cell? ⟨w.heap.size, 1, none⟩ = some (.int .u16 (a0 % 256)) ∧ w'.cell? ⟨w.heap.size, 2, none⟩ = some (.int .u16 0) ∧ w'.cell? ⟨w.heap.size, 3, none⟩ = some (.int .u16 0) ∧ w'.cell? ⟨w.heap.size, 4, none⟩ = some (.int .u16 0) ∧ w'.cell? ⟨w.heap.size + 1, 0, none⟩ = some (.int .u32 (a0 % 256 * 257)) ∧ w'.cell? ⟨w.heap.size + 1, 1, none⟩ = some (.int .u32 (a0 % 256 * 257)) ∧ w'.cell? ⟨w.heap.size + 1, 2, none⟩ = some (.int .u32 (a0 % 256 * 257)) ∧ w'.cell? ⟨w.heap.size + 1, 3, none⟩ = some (.int .u32 65535))
        (first | exact ⟨BB.drew, d0, d1, d2, d3, d4, h0, h1, h2, h3⟩ | assumption | exact keep9 (by assumption) (by assumption))
        (first | (go_at_call 10; refine (CM.out _).mono ?_; rintro e w' ⟨rfl, hb⟩) | (go_at_call 9; (with_reducible refine (V1.out _).mono ?_); rintro e w' ⟨rfl, hb⟩) | (go_at_call 9; (with_reducible refine (VC.out _).mono ?_); rintro e w' ⟨rfl, hb⟩))
      all_goals (rename_i hH; go_wp2; go_ret; exact ⟨rfl, hH.1⟩)
    · have hcv : valid 9 (cv0 9 6 (a0 % 256) 0 0 0) (cv1 9 6 (a0 % 256) 0 0 0) (cv2 9 6 (a0 % 256) 0 0 0) (cv3 9 6 (a0 % 256) 0 0 0) := cv_valid (by omega) hv
      have CM := Lib.hid (fun w => implConvert 9 6 (a0 % 256) 0 0 0 w (by omega) hv)
      have VC := Lib.hid (fun w => implValues 9 (cv0 9 6 (a0 % 256) 0 0 0) (cv1 9 6 (a0 % 256) 0 0 0) (cv2 9 6 (a0 % 256) 0 0 0) (cv3 9 6 (a0 % 256) 0 0 0) w hcv)
      obtain ⟨s0, s1, s2, s3⟩ := gray8_stays (m := 9) (by omega) hz0 hz1
      unfold wR at s0
      unfold wG at s1
      unfold wB at s2
      unfold wA at s3
      rw [s0, s1, s2, s3] at VC
      clear s0 s1 s2 s3 hcv hv
      go_enter Try.func3, Try.ntmps3
      go_upto_region 16 with (fail)
      generalize hW : World.alloc _ _ = W
      have BB : Below w.heap.size w W := by subst hW; exact laterAlloc (laterAlloc (Below.refl _ _) _) _
      have d0 : W.cell? ⟨w.heap.size, 0, none⟩ = some (.int .i64 6) := by subst hW; simp [go_sem]
      have d1 : W.cell? ⟨w.heap.size, 1, none⟩ = some (.int .u16 (a0 % 256)) := by subst hW; simp [go_sem]
      have d2 : W.cell? ⟨w.heap.size, 2, none⟩ = some (.int .u16 0) := by subst hW; simp [go_sem]
      have d3 : W.cell? ⟨w.heap.size, 3, none⟩ = some (.int .u16 0) := by subst hW; simp [go_sem]
      have d4 : W.cell? ⟨w.heap.size, 4, none⟩ = some (.int .u16 0) := by subst hW; simp [go_sem]
      have h0 : W.cell? ⟨w.heap.size + 1, 0, none⟩ = some (.int .u32 (a0 % 256 * 257)) := by subst hW; simp [go_sem]
      have h1 : W.cell? ⟨w.heap.size + 1, 1, none⟩ = some (.int .u32 (a0 % 256 * 257)) := by subst hW; simp [go_sem]
      have h2 : W.cell? ⟨w.heap.size + 1, 2, none⟩ = some (.int .u32 (a0 % 256 * 257)) := by subst hW; simp [go_sem]
      have h3 : W.cell? ⟨w.heap.size + 1, 3, none⟩ = some (.int .u32 65535) := by subst hW; simp [go_sem]
      clear hW
      go_region_held3 (fun w' => Below w.heap.size w w' ∧ w'.cell? ⟨w.heap.size, 0, none⟩ = some (.int .i64 6) ∧ w'.cell? ⟨w.heap.size, 1, none⟩ = some (.int .u16 (a0 % 256)) ∧ w'.cell? ⟨w.heap.size, 2, none⟩ = some (.int .u16 0) ∧ w'.cell? ⟨w.heap.size, 3, none⟩ = some (.int .u16 0) ∧ w'.cell? ⟨w.heap.size, 4, none⟩ = some (.int .u16 0) ∧ w'.cell? ⟨w.heap.size + 1, 0, none⟩ = some (.int .u32 (a0 % 256 * 257)) ∧ w'.cell? ⟨w.heap.size + 1, 1, none⟩ = some (.int .u32 (a0 % 256 * 257)) ∧ w'.cell? ⟨w.heap.size + 1, 2, none⟩ = some (.int .u32 (a0 % 256 * 257)) ∧ w'.cell? ⟨w.heap.size + 1, 3, none⟩ = some (.int .u32 65535))
        (first | exact ⟨BB.drew, d0, d1, d2, d3, d4, h0, h1, h2, h3⟩ | assumption | exact keep9 (by assumption) (by assumption))
        (first | (go_at_call 10; refine (CM.out _).mono ?_; rintro e w' ⟨rfl, hb⟩) | (go_at_call 9; (with_reducible refine (V1.out _).mono ?_); rintro e w' ⟨rfl, hb⟩) | (go_at_call 9; (with_reducible refine (VC.out _).mono ?_); rintro e w' ⟨rfl, hb⟩))
      all_goals (rename_i hH; go_wp2; go_ret; exact ⟨rfl, hH.1⟩)
    · have hcv : valid 10 (cv0 10 6 (a0 % 256) 0 0 0) (cv1 10 6 (a0 % 256) 0 0 0) (cv2 10 6 (a0 % 256) 0 0 0) (cv3 10 6 (a0 % 256) 0 0 0) := cv_valid (by omega) hv
      have CM := Lib.hid (fun w => implConvert 10 6 (a0 % 256) 0 0 0 w (by omega) hv)
      have VC := Lib.hid (fun w => implValues 10 (cv0 10 6 (a0 % 256) 0 0 0) (cv1 10 6 (a0 % 256) 0 0 0) (cv2 10 6 (a0 % 256) 0 0 0) (cv3 10 6 (a0 % 256) 0 0 0) w hcv)
      obtain ⟨s0, s1, s2, s3⟩ := gray8_stays (m := 10) (by omega) hz0 hz1
      unfold wR at s0
      unfold wG at s1
      unfold wB at s2
      unfold wA at s3
      rw [s0, s1, s2, s3] at VC
      clear s0 s1 s2 s3 hcv hv
      go_enter Try.func3, Try.ntmps3
      go_upto_region 16 with (fail)
      generalize hW : World.alloc _ _ = W
      have BB : Below w.heap.size w W := by subst hW; exact laterAlloc (laterAlloc (Below.refl _ _) _) _
      have d0 : W.cell? ⟨w.heap.size, 0, none⟩ = some (.int .i64 6) := by subst hW; simp [go_sem]
      have d1 : W.cell? ⟨w.heap.size, 1, none⟩ = some (.int .u16 (a0 % 256)) := by subst hW; simp [go_sem]
      have d2 : W.cell? ⟨w.heap.size, 2, none⟩ = some (.int .u16 0) := by subst hW; simp [go_sem]
      have d3 : W.cell? ⟨w.heap.size, 3, none⟩ = some (.int .u16 0) := by subst hW; simp [go_sem]
      have d4 : W.cell? ⟨w.heap.size, 4, none⟩ = some (.int .u16 0) := by subst hW; simp [go_sem]
      have h0 : W.cell? ⟨w.heap.size + 1, 0, none⟩ = some (.int .u32 (a0 % 256 * 257)) := by subst hW; simp [go_sem]
      have h1 : W.cell? ⟨w.heap.size + 1, 1, none⟩ = some (.int .u32 (a0 % 256 * 257)) := by subst hW; simp [go_sem]
      have h2 : W.cell? ⟨w.heap.size + 1, 2, none⟩ = some (.int .u32 (a0 % 256 * 257)) := by subst hW; simp [go_sem]
      have h3 : W.cell? ⟨w.heap.size + 1, 3, none⟩ = some (.int .u32 65535) := by subst hW; simp [go_sem]
      clear hW
      go_region_held3 (fun w' => Below w.heap.size w w' ∧ w'.cell? ⟨w.heap.size, 0, none⟩ = some (.int .i64 6) ∧ w'.cell? ⟨w.heap.size, 1, none⟩ = some (.int .u16 (a0 % 256)) ∧ w'.cell? ⟨w.heap.size, 2, none⟩ = some (.int .u16 0) ∧ w'.cell? ⟨w.heap.size, 3, none⟩ = some (.int .u16 0) ∧ w'.cell? ⟨w.heap.size, 4, none⟩ = some (.int .u16 0) ∧ w'.cell? ⟨w.heap.size + 1, 0, none⟩ = some (.int .u32 (a0 % 256 * 257)) ∧ w'.cell? ⟨w.heap.size + 1, 1, none⟩ = some (.int .u32 (a0 % 256 * 257)) ∧ w'.cell? ⟨w.heap.size + 1, 2, none⟩ = some (.int .u32 (a0 % 256 * 257)) ∧ w'.cell? ⟨w.heap.size + 1, 3, none⟩ = some (.int .u32 65535))
        (first | exact ⟨BB.drew, d0, d1, d2, d3, d4, h0, h1, h2, h3⟩ | assumption | exact keep9 (by assumption) (by assumption))
        (first | (go_at_call 10; refine (CM.out _).mono ?_; rintro e w' ⟨rfl, hb⟩) | (go_at_call 9; (with_reducible refine (V1.out _).mono ?_); rintro e w' ⟨rfl, hb⟩) | (go_at_call 9; (with_reducible refine (VC.out _).mono ?_); rintro e w' ⟨rfl, hb⟩))
      all_goals (rename_i hH; go_wp2; go_ret; exact ⟨rfl, hH.1⟩)
  have hv : valid 7 a0 0 0 0 := by unfold valid proper; omega
  have V1 := Lib.hid (fun w => implValues 7 a0 0 0 0 w hv)
  rw [show vR 7 a0 0 0 0 = a0 from rfl, show vG 7 a0 0 0 0 = a0 from rfl, show vB 7 a0 0 0 0 = a0 from rfl, show vA 7 a0 0 0 0 = 65535 from rfl] at V1
  have f0 : (m == 0) = false := beq_eq_false_iff_ne.2 (by omega)
  have f1 : (m == 1) = false := beq_eq_false_iff_ne.2 (by omega)
  have f2 : (m == 2) = false := beq_eq_false_iff_ne.2 (by omega)
  have f3 : (m == 3) = false := beq_eq_false_iff_ne.2 (by omega)
  have f6 : (m == 6) = false := beq_eq_false_iff_ne.2 (by omega)
  have f7 : (m == 7) = false := beq_eq_false_iff_ne.2 (by omega)
  have f9 : (m == 9) = false := beq_eq_false_iff_ne.2 (by omega)
  have f10 : (m == 10) = false := beq_eq_false_iff_ne.2 (by omega)
  clear h16 h8 hv
  go_enter Try.func3, Try.ntmps3
  go_upto_region 17 with (fail)
  generalize hW : World.alloc _ _ = W
  have BB : Below w.heap.size w W := by subst hW; exact laterAlloc (laterAlloc (Below.refl _ _) _) _
  have d0 : W.cell? ⟨w.heap.size, 0, none⟩ = some (.int .i64 7) := by subst hW; simp [go_sem]
  have d1 : W.cell? ⟨w.heap.size, 1, none⟩ = some (.int .u16 a0) := by subst hW; simp [go_sem]
  have d2 : W.cell? ⟨w.heap.size, 2, none⟩ = some (.int .u16 0) := by subst hW; simp [go_sem]
  have d3 : W.cell? ⟨w.heap.size, 3, none⟩ = some (.int .u16 0) := by subst hW; simp [go_sem]
  have d4 : W.cell? ⟨w.heap.size, 4, none⟩ = some (.int .u16 0) := by subst hW; simp [go_sem]
  have h0 : W.cell? ⟨w.heap.size + 1, 0, none⟩ = some (.int .u32 a0) := by subst hW; simp [go_sem]
  have h1 : W.cell? ⟨w.heap.size + 1, 1, none⟩ = some (.int .u32 a0) := by subst hW; simp [go_sem]
  have h2 : W.cell? ⟨w.heap.size + 1, 2, none⟩ = some (.int .u32 a0) := by subst hW; simp [go_sem]
  have h3 : W.cell? ⟨w.heap.size + 1, 3, none⟩ = some (.int .u32 65535) := by subst hW; simp [go_sem]
  clear hW
  go_region_held3 (fun w' => Below w.heap.size w w' ∧ w'.cell? ⟨w.heap.size, 0, none⟩ = some (.int .i64 7) ∧ w'.cell? ⟨w.heap.size, 1, none⟩ = some (.int .u16 a0) ∧ w'.cell? ⟨w.heap.size, 2, none⟩ = some (.int .u16 0) ∧ w'.cell? ⟨w.heap.size, 3, none⟩ = some (.int .u16 0) ∧ w'.cell? ⟨w.heap.size, 4, none⟩ = some (.int .u16 0) ∧ w'.cell? ⟨w.heap.size + 1, 0, none⟩ = some (.int .u32 a0) ∧ w'.cell? ⟨w.heap.size + 1, 1, none⟩ = some (.int .u32 a0) ∧ w'.cell? ⟨w.heap.size + 1, 2, none⟩ = some (.int .u32 a0) ∧ w'.cell? ⟨w.heap.size + 1, 3, none⟩ = some (.int .u32 65535))
    (first | exact ⟨BB.drew, d0, d1, d2, d3, d4, h0, h1, h2, h3⟩ | assumption | exact keep9 (by assumption) (by assumption))
    (first | (go_at_call 9; refine (V1.out _).mono ?_; rintro e w' ⟨rfl, hb⟩))
  all_goals (rename_i hH; go_wp2; go_ret; exact ⟨rfl, hH.1⟩)
/-! ### The row's step, for FnGraysStay. -/
namespace FnGraysStayFrame
open Go.ChangeShapes Go.WideShapes Go.ChangeAt Go.RowKit
theorem own : ownKnob Try.prog.godebug = none := by kernel_rfl
theorem laidOut : laidOutB Try.prog = true := by kernel_rfl
set_option maxRecDepth 100000 in
theorem lifted (os : Os) (started : os.Started) (H : Type) (enc : TypeId × Value → H) :
    ReturnsInHanded {} Try.checked os 3 .any (Rows.fnGraysStaySpec.pre6 enc Try.prog Try.f3 Rows.fnGraysStayRow.domain false) (Rows.fnGraysStaySpec.post enc Try.prog Try.f3 false true false false) := by
  refine returnsInHanded_of_change (C := Try.checked) own started (by kernel_rfl) Try.func3
    (ChangeSpec.witness6 (enc := enc) (C := Try.checked) false ⟨#[], #[.int .u16 0, .int .i64 0], []⟩ 8 (by kernel_rfl) (by kernel_rfl) (by kernel_rfl) (by kernel_rfl)) ?_
  intro W base args ds gs before hval0 hW hcnd _
  have hval : ∀ (j : Nat) t v, Try.f3.params[j]? = some t → args[j]? = some v → Value.okWide Try.prog W .any base t v := hval0
  have hW' := hW
  obtain ⟨p, q, hA0, hV, rfl, hfz, hnd⟩ := hW
  have hA : DataW.TrodAll enc Try.prog W 0 (fun _ => true) true Try.f3.params.toList args.toList ds p := hA0
  rw [Try.params3] at hA hval
  obtain ⟨v0, vs0, d0, ds0, p0, q0, hargs, rfl, rfl, h0, r0⟩ := trodAll_cons hA
  obtain ⟨v1, vs1, d1, ds1, p1, q1, rfl, rfl, rfl, h1, r1⟩ := trodAll_cons r0
  obtain ⟨rfl, rfl, rfl⟩ := trodAll_nil r1
  obtain rfl : args = #[v0, v1] := by cases args; simp_all
  obtain ⟨rfl, rfl⟩ := trodVars_none hV
  obtain ⟨a0, rfl, rfl, rfl, w0⟩ := open_int Try.underlying22 (hval 0 22 v0 rfl rfl) h0
  have b0 := bounds_u16 w0
  obtain ⟨a1, rfl, rfl, rfl, w1⟩ := open_int Try.underlying3 (hval 1 3 v1 rfl rfl) h1
  have b1 := bounds_i64 w1
  clear hA0 hval0
  refine (FnGraysStay_walk a0 a1 b0.1 b0.2 b1.1 b1.2 W).mono fun e W' ⟨he, bel⟩ => ?_
  subst he
  exact ⟨_, rfl, _, _, _, [], _, [], hW', trodAll_mk1 (shut_bool Try.underlying4 _), (trodAll_cons_mk (shut_int Try.underlying22 w0) (trodAll_cons_mk (shut_int Try.underlying3 w1) trodAll_mk0)), rfl, bel.frame _, fun h => by cases h⟩
theorem over : Rows.fnGraysStayRow.holds Try.pinned (OpenSpec.ofChange Rows.fnGraysStaySpec) :=
  OpenClaim.holds_of_wide 3 Try.f3 rfl rfl rfl rfl rfl rfl rfl ⟨rfl, rfl, rfl, rfl, rfl⟩ rfl rfl rfl rfl rfl (by kernel_rfl) Try.func3 (by kernel_rfl)
    (of_decide_eq_true (by kernel_rfl)) (by unfold Func.isWrapper; first | (rw [if_pos (by decide +kernel)]; kernel_rfl) | (rw [if_neg (by decide +kernel)]; exact ⟨rfl, rfl⟩))
    (fun os started H enc _ => lifted os started H enc)
end FnGraysStayFrame
/-- THE STATEMENT. -/
theorem FnGraysStay_holds : Rows.FnGraysStaySaid := FnGraysStayFrame.over
#print axioms FnGraysStay_holds
end Go.Proofs.Ytkjcaiakcailnaa
