/- The contracts of the functions on Y'CbCr: each returns what the plain functions say. -/
import Derived.Test.YtmfjacbpcgcdjaaRows
import Derived.Test.YtmfjacbpcgcdjaaPlain
import Derived.Test.YtmfjacbpcgcdjaaBase
import Derived.Test.YtmfjacbpcgcdjaaBits
import Derived.WalkKit
import Derived.ProofKit
import Derived.OpenShut
import Derived.Outline
namespace Go.Proofs.Ytmfjacbpcgcdjaa
open Go.ChangeShapes Go.WideShapes Go.ChangeAt Go.RowKit Plain



set_option maxHeartbeats 1000000 in
theorem rgbToYCbCr (r g b : Int) (w : World) (hr0 : 0 ≤ r) (hr1 : r ≤ 255) (hg0 : 0 ≤ g) (hg1 : g ≤ 255) (hb0 : 0 ≤ b) (hb1 : b ≤ 255) :
    Calls Try.prog 33 #[.int .u8 r, .int .u8 g, .int .u8 b] w fun e w' => e = .returned (.tuple #[.int .u8 (lumaOf r g b), .int .u8 (cbOf r g b), .int .u8 (crOf r g b)]) ∧ w = w' := by
  go_enter Try.func33, Try.ntmps33
  go_wp2
  all_goals go_ret3
  all_goals refine ⟨tup3 (by unfold lumaOf; omega) ?_ ?_, rfl⟩
  all_goals first | exact in8 (top_true (by omega) (by omega) (by assumption)) | exact out8 (by omega) (by omega) (top_false (by omega) (by omega) (by assumption)) | exact in8 (top_true' (by omega) (by omega) (by assumption)) | exact out8 (by omega) (by omega) (top_false' (by omega) (by omega) (by assumption))

theorem implRGBToYCbCr (r g b : Int) (w : World) (hr0 : 0 ≤ r) (hr1 : r ≤ 255) (hg0 : 0 ≤ g) (hg1 : g ≤ 255) (hb0 : 0 ≤ b) (hb1 : b ≤ 255) :
    Calls Try.prog 26 #[.int .u8 r, .int .u8 g, .int .u8 b] w fun e w' => e = .returned (.agg #[.int .u8 (lumaOf r g b), .int .u8 (cbOf r g b), .int .u8 (crOf r g b)]) ∧ Below w.heap.size w w' := by
  go_enter Try.func26, Try.ntmps26
  go_wp2_with (go_at_call 33; refine (rgbToYCbCr r g b _ hr0 hr1 hg0 hg1 hb0 hb1).mono ?_; rintro e w' ⟨rfl, rfl⟩)
  refine bodyPost_ret (v := .agg #[.int .u8 (lumaOf r g b), .int .u8 (cbOf r g b), .int .u8 (crOf r g b)]) (by simp [results, Try.results26, go_sem]) rfl ⟨rfl, ?_⟩
  exact (Below.refl _ _).alloc (Nat.le_refl _) _
end Go.Proofs.Ytmfjacbpcgcdjaa
