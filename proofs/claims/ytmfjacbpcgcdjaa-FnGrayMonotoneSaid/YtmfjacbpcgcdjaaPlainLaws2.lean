/- More plain laws of the models: alpha, gray, Y'CbCr with alpha. No program in sight. -/
import Derived.Test.YtmfjacbpcgcdjaaPlainCv
namespace Go.Proofs.Ytmfjacbpcgcdjaa.Plain
set_option linter.unusedVariables false

theorem alpha_keeps {k a b c d : Int} (h : valid k a b c d) : cv0 5 k a b c d = vA k a b c d ∧ 0 ≤ cv0 4 k a b c d ∧ cv0 4 k a b c d ≤ 255 ∧ max (cv0 4 k a b c d * 257 - vA k a b c d) (vA k a b c d - cv0 4 k a b c d * 257) < 257 := by
  have hr := vals_range h
  refine ⟨?_, ?_⟩
  · by_cases e : (5 : Int) = k
    · subst e; rw [(cv_own 5 a b c d).1]; rfl
    · rw [(cv_other e (by omega) a b c d).1]; rfl
  · by_cases e : (4 : Int) = k
    · subst e
      rw [(cv_own 4 a b c d).1, show vA 4 a b c d = a * 257 from rfl]
      have hp := h.1
      unfold proper at hp
      omega
    · rw [(cv_other e (by omega) a b c d).1]
      show 0 ≤ vA k a b c d / 256 ∧ vA k a b c d / 256 ≤ 255 ∧ max (vA k a b c d / 256 * 257 - vA k a b c d) (vA k a b c d - vA k a b c d / 256 * 257) < 257
      omega

theorem gray_near {k a b c d : Int} (h : valid k a b c d) : 0 ≤ cv0 7 k a b c d ∧ cv0 7 k a b c d ≤ 65535 ∧ 0 ≤ cv0 6 k a b c d ∧ cv0 6 k a b c d ≤ 255 ∧
    1000 * (cv0 7 k a b c d - 1) ≤ 299 * vR k a b c d + 587 * vG k a b c d + 114 * vB k a b c d ∧ 299 * vR k a b c d + 587 * vG k a b c d + 114 * vB k a b c d ≤ 1000 * (cv0 7 k a b c d + 1) ∧
    1000 * (cv0 6 k a b c d - 1) * 257 ≤ 299 * vR k a b c d + 587 * vG k a b c d + 114 * vB k a b c d ∧ 299 * vR k a b c d + 587 * vG k a b c d + 114 * vB k a b c d ≤ 1000 * (cv0 6 k a b c d + 1) * 257 := by
  have hr := vals_range h
  have h7 : (0 ≤ cv0 7 k a b c d ∧ cv0 7 k a b c d ≤ 65535) ∧ 1000 * (cv0 7 k a b c d - 1) ≤ 299 * vR k a b c d + 587 * vG k a b c d + 114 * vB k a b c d ∧ 299 * vR k a b c d + 587 * vG k a b c d + 114 * vB k a b c d ≤ 1000 * (cv0 7 k a b c d + 1) := by
    by_cases e : (7 : Int) = k
    · subst e
      rw [(cv_own 7 a b c d).1, show vR 7 a b c d = a from rfl, show vG 7 a b c d = a from rfl, show vB 7 a b c d = a from rfl]
      have hp := h.1
      unfold proper at hp
      omega
    · rw [(cv_other e (by omega) a b c d).1]
      show (0 ≤ gray16 (vR k a b c d) (vG k a b c d) (vB k a b c d) ∧ gray16 (vR k a b c d) (vG k a b c d) (vB k a b c d) ≤ 65535) ∧ 1000 * (gray16 (vR k a b c d) (vG k a b c d) (vB k a b c d) - 1) ≤ _ ∧ _ ≤ 1000 * (gray16 (vR k a b c d) (vG k a b c d) (vB k a b c d) + 1)
      generalize vR k a b c d = r at *
      generalize vG k a b c d = g at *
      generalize vB k a b c d = u at *
      unfold gray16
      omega
  have h6 : (0 ≤ cv0 6 k a b c d ∧ cv0 6 k a b c d ≤ 255) ∧ 1000 * (cv0 6 k a b c d - 1) * 257 ≤ 299 * vR k a b c d + 587 * vG k a b c d + 114 * vB k a b c d ∧ 299 * vR k a b c d + 587 * vG k a b c d + 114 * vB k a b c d ≤ 1000 * (cv0 6 k a b c d + 1) * 257 := by
    by_cases e : (6 : Int) = k
    · subst e
      rw [(cv_own 6 a b c d).1, show vR 6 a b c d = a * 257 from rfl, show vG 6 a b c d = a * 257 from rfl, show vB 6 a b c d = a * 257 from rfl]
      have hp := h.1
      unfold proper at hp
      omega
    · rw [(cv_other e (by omega) a b c d).1]
      show (0 ≤ gray8 (vR k a b c d) (vG k a b c d) (vB k a b c d) ∧ gray8 (vR k a b c d) (vG k a b c d) (vB k a b c d) ≤ 255) ∧ 1000 * (gray8 (vR k a b c d) (vG k a b c d) (vB k a b c d) - 1) * 257 ≤ _ ∧ _ ≤ 1000 * (gray8 (vR k a b c d) (vG k a b c d) (vB k a b c d) + 1) * 257
      generalize vR k a b c d = r at *
      generalize vG k a b c d = g at *
      generalize vB k a b c d = u at *
      unfold gray8
      omega
  exact ⟨h7.1.1, h7.1.2, h6.1.1, h6.1.2, h7.2.1, h7.2.2, h6.2.1, h6.2.2⟩

theorem gray16_of {k a b c d : Int} (h : valid k a b c d) : cv0 7 k a b c d = gray16 (vR k a b c d) (vG k a b c d) (vB k a b c d) := by
  by_cases e : (7 : Int) = k
  · subst e
    rw [(cv_own 7 a b c d).1, show vR 7 a b c d = a from rfl, show vG 7 a b c d = a from rfl, show vB 7 a b c d = a from rfl]
    unfold gray16; omega
  · rw [(cv_other e (by omega) a b c d).1]; rfl
theorem gray8_of {k a b c d : Int} (h : valid k a b c d) : cv0 6 k a b c d = gray8 (vR k a b c d) (vG k a b c d) (vB k a b c d) := by
  by_cases e : (6 : Int) = k
  · subst e
    rw [(cv_own 6 a b c d).1, show vR 6 a b c d = a * 257 from rfl, show vG 6 a b c d = a * 257 from rfl, show vB 6 a b c d = a * 257 from rfl]
    have hp := h.1
    unfold proper at hp
    unfold gray8; omega
  · rw [(cv_other e (by omega) a b c d).1]; rfl
/-- Gray grows with the values. -/
theorem gray_mono {r g b r' g' b' : Int} (h0 : r ≤ r') (h1 : g ≤ g') (h2 : b ≤ b') : gray16 r g b ≤ gray16 r' g' b' ∧ gray8 r g b ≤ gray8 r' g' b' := by
  unfold gray16 gray8; omega
/-- A Y'CbCr color with alpha: its values are those without, scaled. -/
theorem nycc_scaled {x a : Int} (hx0 : 0 ≤ x) (hx1 : x ≤ 65535) (ha0 : 0 ≤ a) (ha1 : a ≤ 255) : -255 ≤ x * (a * 257) % 4294967296 / 65535 * 255 - x * a ∧ x * (a * 257) % 4294967296 / 65535 * 255 - x * a ≤ 255 ∧ 0 ≤ x * (a * 257) % 4294967296 / 65535 ∧ x * (a * 257) % 4294967296 / 65535 ≤ 65535 ∧ 0 ≤ x * a ∧ x * a ≤ 16711425 := by
  have s := scale65535 hx0 hx1 (y := a * 257) (by omega) (by omega)
  have s3 := s.2.2
  rw [s3]
  rw [s3] at s
  have e : x * (a * 257) = 257 * (x * a) := by grind
  have h0 : 0 ≤ x * a := Int.mul_nonneg hx0 ha0
  have h1 : x * a ≤ 65535 * 255 := Int.mul_le_mul hx1 ha1 ha0 (by omega)
  rw [e] at s ⊢
  clear s3 e
  generalize x * a = t at *
  omega
end Go.Proofs.Ytmfjacbpcgcdjaa.Plain
