/- Plain functions on integers and their laws: no program in sight. -/
namespace Go.Proofs.Ytogbagjgagbnkaa.Plain

/-- What one ink and black leave of the light, of 16 bits (as the code reckons it). -/
def ink16 (c k : Int) : Int := (65535 - c * 257) * (65535 - k * 257) % 4294967296 / 65535
/-- The same, of 8 bits. -/
def ink8 (c k : Int) : Int := (65535 - c * 257) * (65535 - k * 257) % 4294967296 / 65535 / 256 % 256

theorem mul_range {x y : Int} (hx0 : 0 ≤ x) (hx1 : x ≤ 65535) (hy0 : 0 ≤ y) (hy1 : y ≤ 65535) : 0 ≤ x * y ∧ x * y ≤ 65535 * 65535 :=
  ⟨Int.mul_nonneg hx0 hy0, Int.mul_le_mul hx1 hy1 hy0 (by omega)⟩

theorem ink16_plain {c k : Int} (hc0 : 0 ≤ c) (hc1 : c ≤ 255) (hk0 : 0 ≤ k) (hk1 : k ≤ 255) : ink16 c k = (65535 - c * 257) * (65535 - k * 257) / 65535 := by
  obtain ⟨h0, h1⟩ := mul_range (x := 65535 - c * 257) (y := 65535 - k * 257) (by omega) (by omega) (by omega) (by omega)
  unfold ink16
  generalize (65535 - c * 257) * (65535 - k * 257) = m at *
  omega

theorem ink16_range {c k : Int} (hc0 : 0 ≤ c) (hc1 : c ≤ 255) (hk0 : 0 ≤ k) (hk1 : k ≤ 255) : 0 ≤ ink16 c k ∧ ink16 c k ≤ 65535 := by
  obtain ⟨h0, h1⟩ := mul_range (x := 65535 - c * 257) (y := 65535 - k * 257) (by omega) (by omega) (by omega) (by omega)
  rw [ink16_plain hc0 hc1 hk0 hk1]
  generalize (65535 - c * 257) * (65535 - k * 257) = m at *
  omega

theorem ink8_eq {c k : Int} (hc0 : 0 ≤ c) (hc1 : c ≤ 255) (hk0 : 0 ≤ k) (hk1 : k ≤ 255) : ink8 c k = ink16 c k / 256 := by
  have h := ink16_range hc0 hc1 hk0 hk1
  have e : ink8 c k = ink16 c k / 256 % 256 := rfl
  omega

/-- More ink does not give more light. -/
theorem ink8_mono {c k c' k' : Int} (hc0 : 0 ≤ c) (hk0 : 0 ≤ k) (hc : c ≤ c') (hk : k ≤ k') (hc1 : c' ≤ 255) (hk1 : k' ≤ 255) : ink8 c' k' ≤ ink8 c k := by
  rw [ink8_eq (by omega) hc1 (by omega) hk1, ink8_eq hc0 (by omega) hk0 (by omega), ink16_plain (by omega) hc1 (by omega) hk1, ink16_plain hc0 (by omega) hk0 (by omega)]
  have h : (65535 - c' * 257) * (65535 - k' * 257) ≤ (65535 - c * 257) * (65535 - k * 257) := Int.mul_le_mul (by omega) (by omega) (by omega) (by omega)
  generalize (65535 - c * 257) * (65535 - k * 257) = m at *
  generalize (65535 - c' * 257) * (65535 - k' * 257) = m' at *
  omega

end Go.Proofs.Ytogbagjgagbnkaa.Plain
