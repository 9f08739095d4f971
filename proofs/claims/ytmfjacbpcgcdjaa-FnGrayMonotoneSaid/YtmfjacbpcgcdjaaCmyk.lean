/- The contracts of the functions on CMYK: each returns what the plain functions say; nothing in memory changes. -/
import Derived.Test.YtmfjacbpcgcdjaaRows
import Derived.Test.YtmfjacbpcgcdjaaPlain
import Derived.Test.YtmfjacbpcgcdjaaBase
import Derived.WalkKit
import Derived.ProofKit
import Derived.OpenShut
import Derived.Outline
namespace Go.Proofs.Ytmfjacbpcgcdjaa
open Go.ChangeShapes Go.WideShapes Go.ChangeAt Go.RowKit Plain



set_option maxHeartbeats 1000000 in
theorem rgbToCMYK (r g b : Int) (w : World) (hr0 : 0 ≤ r) (hr1 : r ≤ 255) (hg0 : 0 ≤ g) (hg1 : g ≤ 255) (hb0 : 0 ≤ b) (hb1 : b ≤ 255) :
    Calls Try.prog 35 #[.int .u8 r, .int .u8 g, .int .u8 b] w fun e w' => e = .returned (.tuple #[.int .u8 (inkOf (most r g b) r), .int .u8 (inkOf (most r g b) g), .int .u8 (inkOf (most r g b) b), .int .u8 (255 - most r g b)]) ∧ w = w' := by
  by_cases hz : most r g b = 0
  · obtain ⟨rfl, rfl, rfl⟩ : r = 0 ∧ g = 0 ∧ b = 0 := by unfold most at hz; omega
    go_enter Try.func35, Try.ntmps35
    go_wp2
    refine bodyPost_ret (results_tmp4 rfl _ _ _) rfl ?_
    exact ⟨rfl, rfl⟩
  have k1 := inkOf_range (w := most r g b) (r := r) hr0 (by unfold most; omega)
  have k2 := inkOf_range (w := most r g b) (r := g) hg0 (by unfold most; omega)
  have k3 := inkOf_range (w := most r g b) (r := b) hb0 (by unfold most; omega)
  obtain ⟨m, hm⟩ : ∃ m, m = most r g b := ⟨_, rfl⟩
  rw [← hm] at k1 k2 k3 hz ⊢
  have e1 : inkOf m r = (m - r) * 255 / m := by unfold inkOf; rw [if_neg hz]
  have e2 : inkOf m g = (m - g) * 255 / m := by unfold inkOf; rw [if_neg hz]
  have e3 : inkOf m b = (m - b) * 255 / m := by unfold inkOf; rw [if_neg hz]
  rw [e1] at k1; rw [e2] at k2; rw [e3] at k3; rw [e1, e2, e3]
  clear e1 e2 e3
  have hc : (m = r ∧ g ≤ r ∧ b ≤ r ∧ 0 < r) ∨ (m = g ∧ r < g ∧ b ≤ g ∧ 0 < g) ∨ (m = b ∧ r < b ∧ g < b ∧ 0 < b) := by unfold most at hm; omega
  clear hm hz
  rcases hc with ⟨rfl, _, _, _⟩ | ⟨rfl, _, _, _⟩ | ⟨rfl, _, _, _⟩
  · go_enter Try.func35, Try.ntmps35
    go_wp2
    all_goals refine bodyPost_ret (results_tmp4 rfl _ _ _) rfl ?_
    all_goals refine ⟨tup4 ?_ ?_ ?_ ?_, rfl⟩ <;> first | rfl | (rw [Int.sub_self, Int.zero_mul, Int.zero_ediv]; done) | omega
  · go_enter Try.func35, Try.ntmps35
    go_wp2
    all_goals refine bodyPost_ret (results_tmp4 rfl _ _ _) rfl ?_
    all_goals refine ⟨tup4 ?_ ?_ ?_ ?_, rfl⟩ <;> first | rfl | (rw [Int.sub_self, Int.zero_mul, Int.zero_ediv]; done) | omega
  · by_cases hrg : r < g
    all_goals
      go_enter Try.func35, Try.ntmps35
      go_wp2
      refine bodyPost_ret (results_tmp4 rfl _ _ _) rfl ?_
      refine ⟨tup4 ?_ ?_ ?_ ?_, rfl⟩ <;> first | rfl | (rw [Int.sub_self, Int.zero_mul, Int.zero_ediv]; done) | omega
theorem implRGBToCMYK (r g b : Int) (w : World) (hr0 : 0 ≤ r) (hr1 : r ≤ 255) (hg0 : 0 ≤ g) (hg1 : g ≤ 255) (hb0 : 0 ≤ b) (hb1 : b ≤ 255) :
    Calls Try.prog 29 #[.int .u8 r, .int .u8 g, .int .u8 b] w fun e w' => e = .returned (.agg #[.int .u8 (inkOf (most r g b) r), .int .u8 (inkOf (most r g b) g), .int .u8 (inkOf (most r g b) b), .int .u8 (255 - most r g b)]) ∧ Below w.heap.size w w' := by
  go_enter Try.func29, Try.ntmps29
  go_wp2_with (go_at_call 35; refine (rgbToCMYK r g b _ hr0 hr1 hg0 hg1 hb0 hb1).mono ?_; rintro e w' ⟨rfl, rfl⟩)
  refine bodyPost_ret (v := .agg #[.int .u8 (inkOf (most r g b) r), .int .u8 (inkOf (most r g b) g), .int .u8 (inkOf (most r g b) b), .int .u8 (255 - most r g b)]) (by simp [results, Try.results29, go_sem]) rfl ⟨rfl, ?_⟩
  exact (Below.refl _ _).alloc (Nat.le_refl _) _
end Go.Proofs.Ytmfjacbpcgcdjaa
