/- The contracts of the functions on CMYK: each returns what the plain functions say; nothing in memory changes. -/
import Derived.Test.YtogbagjgagbnkaaRows
import Derived.Test.YtogbagjgagbnkaaPlain
import Derived.Test.YtogbagjgagbnkaaBase
import Derived.WalkKit
import Derived.ProofKit
import Derived.OpenShut
import Derived.Outline
namespace Go.Proofs.Ytogbagjgagbnkaa
open Go.ChangeShapes Go.WideShapes Go.ChangeAt Go.RowKit Plain

theorem cmykToRGB (c m y k : Int) (w : World) (hc0 : 0 ≤ c) (hc1 : c ≤ 255) (hm0 : 0 ≤ m) (hm1 : m ≤ 255) (hy0 : 0 ≤ y) (hy1 : y ≤ 255) (hk0 : 0 ≤ k) (hk1 : k ≤ 255) :
    Calls Try.prog 19 #[.int .u8 c, .int .u8 m, .int .u8 y, .int .u8 k] w fun e w' => e = .returned (.tuple #[.int .u8 (ink8 c k), .int .u8 (ink8 m k), .int .u8 (ink8 y k)]) ∧ w = w' := by
  go_enter Try.func19, Try.ntmps19
  go_wp2
  go_ret3
  exact ⟨rfl, rfl⟩

theorem implCMYKToRGB (c m y k : Int) (w : World) (hc0 : 0 ≤ c) (hc1 : c ≤ 255) (hm0 : 0 ≤ m) (hm1 : m ≤ 255) (hy0 : 0 ≤ y) (hy1 : y ≤ 255) (hk0 : 0 ≤ k) (hk1 : k ≤ 255) :
    Calls Try.prog 11 #[.int .u8 c, .int .u8 m, .int .u8 y, .int .u8 k] w fun e w' => e = .returned (.agg #[.int .u8 (ink8 c k), .int .u8 (ink8 m k), .int .u8 (ink8 y k)]) ∧ Below w.heap.size w w' := by
  go_enter Try.func11, Try.ntmps11
  go_wp2_with (go_at_call 19; refine (cmykToRGB c m y k _ hc0 hc1 hm0 hm1 hy0 hy1 hk0 hk1).mono ?_; rintro e w' ⟨rfl, rfl⟩)
  refine bodyPost_ret (v := .agg #[.int .u8 (ink8 c k), .int .u8 (ink8 m k), .int .u8 (ink8 y k)]) (by simp [results, Try.results11, go_sem]) rfl ⟨rfl, ?_⟩
  exact (Below.refl _ _).alloc (Nat.le_refl _) _
end Go.Proofs.Ytogbagjgagbnkaa
