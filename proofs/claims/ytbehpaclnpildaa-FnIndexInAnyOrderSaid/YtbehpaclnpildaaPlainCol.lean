/- Colors as plain numbers: a kind k and four components. What their values are, and which are proper and valid. No program in sight. -/
import Derived.Test.YtbehpaclnpildaaPlain
namespace Go.Proofs.Ytbehpaclnpildaa.Plain
set_option linter.unusedVariables false

/-- Red, green, blue and alpha of a color, as the code reckons them. -/
def vR (k a b c d : Int) : Int := if k = 0 then a * 257 else if k = 1 then a else if k = 2 then a * 257 * d % 4294967296 / 255 else if k = 3 then a * d % 4294967296 / 65535 else if k = 4 then a * 257 else if k = 5 then a else if k = 6 then a * 257 else if k = 7 then a else if k = 8 then ink16 a d else if k = 9 then cl16 (a * 65793 + 91881 * (c - 128)) else cl16 (a * 65793 + 91881 * (c - 128)) * (d * 257) % 4294967296 / 65535
def vG (k a b c d : Int) : Int := if k = 0 then b * 257 else if k = 1 then b else if k = 2 then b * 257 * d % 4294967296 / 255 else if k = 3 then b * d % 4294967296 / 65535 else if k = 4 then a * 257 else if k = 5 then a else if k = 6 then a * 257 else if k = 7 then a else if k = 8 then ink16 b d else if k = 9 then cl16 (a * 65793 - 22554 * (b - 128) - 46802 * (c - 128)) else cl16 (a * 65793 - 22554 * (b - 128) - 46802 * (c - 128)) * (d * 257) % 4294967296 / 65535
def vB (k a b c d : Int) : Int := if k = 0 then c * 257 else if k = 1 then c else if k = 2 then c * 257 * d % 4294967296 / 255 else if k = 3 then c * d % 4294967296 / 65535 else if k = 4 then a * 257 else if k = 5 then a else if k = 6 then a * 257 else if k = 7 then a else if k = 8 then ink16 c d else if k = 9 then cl16 (a * 65793 + 116130 * (b - 128)) else cl16 (a * 65793 + 116130 * (b - 128)) * (d * 257) % 4294967296 / 65535
def vA (k a b c d : Int) : Int := if k = 0 then d * 257 else if k = 1 then d else if k = 2 then d * 257 else if k = 3 then d else if k = 4 then a * 257 else if k = 5 then a else if k = 6 then 65535 else if k = 7 then 65535 else if k = 8 then 65535 else if k = 9 then 65535 else d * 257

/-- The components have as many bits as the kind says, 0 behind them. -/
def proper (k a b c d : Int) : Prop := 0 ≤ a ∧ 0 ≤ b ∧ 0 ≤ c ∧ 0 ≤ d ∧
  (((k = 0 ∨ k = 2 ∨ k = 8 ∨ k = 10) ∧ a ≤ 255 ∧ b ≤ 255 ∧ c ≤ 255 ∧ d ≤ 255) ∨ ((k = 1 ∨ k = 3) ∧ a ≤ 65535 ∧ b ≤ 65535 ∧ c ≤ 65535 ∧ d ≤ 65535) ∨
   ((k = 4 ∨ k = 6) ∧ a ≤ 255 ∧ b = 0 ∧ c = 0 ∧ d = 0) ∨ ((k = 5 ∨ k = 7) ∧ a ≤ 65535 ∧ b = 0 ∧ c = 0 ∧ d = 0) ∨ (k = 9 ∧ a ≤ 255 ∧ b ≤ 255 ∧ c ≤ 255 ∧ d = 0))
/-- And no component of an alpha-premultiplied color is greater than alpha. -/
def valid (k a b c d : Int) : Prop := proper k a b c d ∧ ((k = 0 ∨ k = 1) → a ≤ d ∧ b ≤ d ∧ c ≤ d)

theorem proper_kind {k a b c d : Int} (h : proper k a b c d) : k = 0 ∨ k = 1 ∨ k = 2 ∨ k = 3 ∨ k = 4 ∨ k = 5 ∨ k = 6 ∨ k = 7 ∨ k = 8 ∨ k = 9 ∨ k = 10 := by unfold proper at h; omega

theorem scale255 {x y : Int} (hx0 : 0 ≤ x) (hx1 : x ≤ 255) (hy0 : 0 ≤ y) (hy1 : y ≤ 255) : 0 ≤ x * 257 * y % 4294967296 / 255 ∧ x * 257 * y % 4294967296 / 255 ≤ y * 257 ∧ x * 257 * y % 4294967296 = x * 257 * y := by
  have h0 : 0 ≤ x * 257 * y := Int.mul_nonneg (by omega) hy0
  have h1 : x * 257 * y ≤ 65535 * y := Int.mul_le_mul_of_nonneg_right (by omega) hy0
  generalize x * 257 * y = m at *
  omega
theorem scale65535 {x y : Int} (hx0 : 0 ≤ x) (hx1 : x ≤ 65535) (hy0 : 0 ≤ y) (hy1 : y ≤ 65535) : 0 ≤ x * y % 4294967296 / 65535 ∧ x * y % 4294967296 / 65535 ≤ y ∧ x * y % 4294967296 = x * y := by
  have h0 : 0 ≤ x * y := Int.mul_nonneg hx0 hy0
  have h1 : x * y ≤ 65535 * y := Int.mul_le_mul_of_nonneg_right hx1 hy0
  generalize x * y = m at *
  omega

/-- The values of a valid color are scaled by alpha. -/
theorem vals_range {k a b c d : Int} (h : valid k a b c d) : 0 ≤ vR k a b c d ∧ vR k a b c d ≤ vA k a b c d ∧ 0 ≤ vG k a b c d ∧ vG k a b c d ≤ vA k a b c d ∧ 0 ≤ vB k a b c d ∧ vB k a b c d ≤ vA k a b c d ∧ 0 ≤ vA k a b c d ∧ vA k a b c d ≤ 65535 := by
  obtain ⟨hp, hv⟩ := h
  have hk := proper_kind hp
  unfold proper at hp
  unfold vR vG vB vA
  rcases hk with rfl | rfl | rfl | rfl | rfl | rfl | rfl | rfl | rfl | rfl | rfl
  · simp only [if_true, if_false, Int.reduceEq]; omega
  · simp only [if_true, if_false, Int.reduceEq]; omega
  · have s1 := scale255 (x := a) (y := d) (by omega) (by omega) (by omega) (by omega)
    have s2 := scale255 (x := b) (y := d) (by omega) (by omega) (by omega) (by omega)
    have s3 := scale255 (x := c) (y := d) (by omega) (by omega) (by omega) (by omega)
    simp only [if_true, if_false, Int.reduceEq]
    exact ⟨s1.1, s1.2.1, s2.1, s2.2.1, s3.1, s3.2.1, by omega, by omega⟩
  · have s1 := scale65535 (x := a) (y := d) (by omega) (by omega) (by omega) (by omega)
    have s2 := scale65535 (x := b) (y := d) (by omega) (by omega) (by omega) (by omega)
    have s3 := scale65535 (x := c) (y := d) (by omega) (by omega) (by omega) (by omega)
    simp only [if_true, if_false, Int.reduceEq]
    exact ⟨s1.1, s1.2.1, s2.1, s2.2.1, s3.1, s3.2.1, by omega, by omega⟩
  · simp only [if_true, if_false, Int.reduceEq]; omega
  · simp only [if_true, if_false, Int.reduceEq]; omega
  · simp only [if_true, if_false, Int.reduceEq]; omega
  · simp only [if_true, if_false, Int.reduceEq]; omega
  · have s1 := ink16_range (c := a) (k := d) (by omega) (by omega) (by omega) (by omega)
    have s2 := ink16_range (c := b) (k := d) (by omega) (by omega) (by omega) (by omega)
    have s3 := ink16_range (c := c) (k := d) (by omega) (by omega) (by omega) (by omega)
    simp only [if_true, if_false, Int.reduceEq]; omega
  · have s1 := cl16_range (a * 65793 + 91881 * (c - 128))
    have s2 := cl16_range (a * 65793 - 22554 * (b - 128) - 46802 * (c - 128))
    have s3 := cl16_range (a * 65793 + 116130 * (b - 128))
    simp only [if_true, if_false, Int.reduceEq]; omega
  · have t1 := cl16_range (a * 65793 + 91881 * (c - 128))
    have t2 := cl16_range (a * 65793 - 22554 * (b - 128) - 46802 * (c - 128))
    have t3 := cl16_range (a * 65793 + 116130 * (b - 128))
    have s1 := scale65535 (y := d * 257) t1.1 t1.2 (by omega) (by omega)
    have s2 := scale65535 (y := d * 257) t2.1 t2.2 (by omega) (by omega)
    have s3 := scale65535 (y := d * 257) t3.1 t3.2 (by omega) (by omega)
    simp only [if_false, Int.reduceEq]
    exact ⟨s1.1, s1.2.1, s2.1, s2.2.1, s3.1, s3.2.1, by omega, by omega⟩
end Go.Proofs.Ytbehpaclnpildaa.Plain
