/- What a model makes of red, green, blue and alpha; that it is proper and valid. No program in sight. -/
import Derived.Test.YtmfjacbpcgcdjaaPlainCol
namespace Go.Proofs.Ytmfjacbpcgcdjaa.Plain
set_option linter.unusedVariables false

/-- A value without the scaling by alpha. -/
def un (r a : Int) : Int := if a = 0 then 0 else r * 65535 / a
def gray8 (r g b : Int) : Int := (19595 * r + 38470 * g + 7471 * b + 32768) / 16777216
def gray16 (r g b : Int) : Int := (19595 * r + 38470 * g + 7471 * b + 32768) / 65536
/-- The components of what model m makes. -/
def c0 (m r g b a : Int) : Int := if m = 0 then r / 256 else if m = 1 then r else if m = 2 then un r a / 256 else if m = 3 then un r a else if m = 4 then a / 256 else if m = 5 then a else if m = 6 then gray8 r g b else if m = 7 then gray16 r g b else if m = 8 then inkOf (most (r / 256) (g / 256) (b / 256)) (r / 256) else if m = 9 then lumaOf (r / 256) (g / 256) (b / 256) else lumaOf (un r a / 256) (un g a / 256) (un b a / 256)
def c1 (m r g b a : Int) : Int := if m = 0 then g / 256 else if m = 1 then g else if m = 2 then un g a / 256 else if m = 3 then un g a else if m = 4 then 0 else if m = 5 then 0 else if m = 6 then 0 else if m = 7 then 0 else if m = 8 then inkOf (most (r / 256) (g / 256) (b / 256)) (g / 256) else if m = 9 then cbOf (r / 256) (g / 256) (b / 256) else cbOf (un r a / 256) (un g a / 256) (un b a / 256)
def c2 (m r g b a : Int) : Int := if m = 0 then b / 256 else if m = 1 then b else if m = 2 then un b a / 256 else if m = 3 then un b a else if m = 4 then 0 else if m = 5 then 0 else if m = 6 then 0 else if m = 7 then 0 else if m = 8 then inkOf (most (r / 256) (g / 256) (b / 256)) (b / 256) else if m = 9 then crOf (r / 256) (g / 256) (b / 256) else crOf (un r a / 256) (un g a / 256) (un b a / 256)
def c3 (m r g b a : Int) : Int := if m = 0 then a / 256 else if m = 1 then a else if m = 2 then a / 256 else if m = 3 then a else if m = 4 then 0 else if m = 5 then 0 else if m = 6 then 0 else if m = 7 then 0 else if m = 8 then 255 - most (r / 256) (g / 256) (b / 256) else if m = 9 then 0 else a / 256

theorem un_range {r a : Int} (h0 : 0 ≤ r) (h1 : r ≤ a) : 0 ≤ un r a ∧ un r a ≤ 65535 := by
  unfold un; split
  · omega
  · have ha : 0 < a := by omega
    refine ⟨Int.ediv_nonneg (by omega) (by omega), ?_⟩
    have : r * 65535 / a ≤ 65535 * a / a := Int.ediv_le_ediv ha (by omega)
    rw [Int.mul_ediv_cancel _ (by omega)] at this
    exact this
theorem un_full {r : Int} : un r 65535 = r := by unfold un; omega
theorem gray8_range {r g b : Int} (hr0 : 0 ≤ r) (hr1 : r ≤ 65535) (hg0 : 0 ≤ g) (hg1 : g ≤ 65535) (hb0 : 0 ≤ b) (hb1 : b ≤ 65535) : 0 ≤ gray8 r g b ∧ gray8 r g b ≤ 255 := by unfold gray8; omega
theorem gray16_range {r g b : Int} (hr0 : 0 ≤ r) (hr1 : r ≤ 65535) (hg0 : 0 ≤ g) (hg1 : g ≤ 65535) (hb0 : 0 ≤ b) (hb1 : b ≤ 65535) : 0 ≤ gray16 r g b ∧ gray16 r g b ≤ 65535 := by unfold gray16; omega

/-- What a model makes is valid. -/
theorem conv_valid {m r g b a : Int} (hm : m = 0 ∨ m = 1 ∨ m = 2 ∨ m = 3 ∨ m = 4 ∨ m = 5 ∨ m = 6 ∨ m = 7 ∨ m = 8 ∨ m = 9 ∨ m = 10) (h : 0 ≤ r ∧ r ≤ a ∧ 0 ≤ g ∧ g ≤ a ∧ 0 ≤ b ∧ b ≤ a ∧ 0 ≤ a ∧ a ≤ 65535) :
    valid m (c0 m r g b a) (c1 m r g b a) (c2 m r g b a) (c3 m r g b a) := by
  have u1 := un_range h.1 h.2.1
  have u2 := un_range h.2.2.1 h.2.2.2.1
  have u3 := un_range h.2.2.2.2.1 h.2.2.2.2.2.1
  have g1 := gray8_range (r := r) (g := g) (b := b) (by omega) (by omega) (by omega) (by omega) (by omega) (by omega)
  have g2 := gray16_range (r := r) (g := g) (b := b) (by omega) (by omega) (by omega) (by omega) (by omega) (by omega)
  have mm : 0 ≤ most (r / 256) (g / 256) (b / 256) ∧ most (r / 256) (g / 256) (b / 256) ≤ 255 ∧ r / 256 ≤ most (r / 256) (g / 256) (b / 256) ∧ g / 256 ≤ most (r / 256) (g / 256) (b / 256) ∧ b / 256 ≤ most (r / 256) (g / 256) (b / 256) := by unfold most; omega
  have k1 := inkOf_range (w := most (r / 256) (g / 256) (b / 256)) (r := r / 256) (by omega) (by omega)
  have k2 := inkOf_range (w := most (r / 256) (g / 256) (b / 256)) (r := g / 256) (by omega) (by omega)
  have k3 := inkOf_range (w := most (r / 256) (g / 256) (b / 256)) (r := b / 256) (by omega) (by omega)
  have y1 := luma_range (r := r / 256) (g := g / 256) (b := b / 256) (by omega) (by omega) (by omega) (by omega) (by omega) (by omega)
  have y2 := luma_range (r := un r a / 256) (g := un g a / 256) (b := un b a / 256) (by omega) (by omega) (by omega) (by omega) (by omega) (by omega)
  have b1 := cb_range (r / 256) (g / 256) (b / 256)
  have b2 := cb_range (un r a / 256) (un g a / 256) (un b a / 256)
  have q1 := cr_range (r / 256) (g / 256) (b / 256)
  have q2 := cr_range (un r a / 256) (un g a / 256) (un b a / 256)
  rcases hm with rfl | rfl | rfl | rfl | rfl | rfl | rfl | rfl | rfl | rfl | rfl
  · show valid 0 (r / 256) (g / 256) (b / 256) (a / 256); unfold valid proper; omega
  · show valid 1 (r) (g) (b) (a); unfold valid proper; omega
  · show valid 2 (un r a / 256) (un g a / 256) (un b a / 256) (a / 256); unfold valid proper; omega
  · show valid 3 (un r a) (un g a) (un b a) (a); unfold valid proper; omega
  · show valid 4 (a / 256) (0) (0) (0); unfold valid proper; omega
  · show valid 5 (a) (0) (0) (0); unfold valid proper; omega
  · show valid 6 (gray8 r g b) (0) (0) (0); unfold valid proper; omega
  · show valid 7 (gray16 r g b) (0) (0) (0); unfold valid proper; omega
  · show valid 8 (inkOf (most (r / 256) (g / 256) (b / 256)) (r / 256)) (inkOf (most (r / 256) (g / 256) (b / 256)) (g / 256)) (inkOf (most (r / 256) (g / 256) (b / 256)) (b / 256)) (255 - most (r / 256) (g / 256) (b / 256)); unfold valid proper; omega
  · show valid 9 (lumaOf (r / 256) (g / 256) (b / 256)) (cbOf (r / 256) (g / 256) (b / 256)) (crOf (r / 256) (g / 256) (b / 256)) (0); unfold valid proper; omega
  · show valid 10 (lumaOf (un r a / 256) (un g a / 256) (un b a / 256)) (cbOf (un r a / 256) (un g a / 256) (un b a / 256)) (crOf (un r a / 256) (un g a / 256) (un b a / 256)) (a / 256); unfold valid proper; omega
end Go.Proofs.Ytmfjacbpcgcdjaa.Plain
