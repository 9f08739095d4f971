/- More plain laws of the models: 16 bits kept, no transparency, Y'CbCr with alpha, grays. No program in sight. -/
import Derived.Test.YtkjcaiakcailnaaPlainLaws
namespace Go.Proofs.Ytkjcaiakcailnaa.Plain
set_option linter.unusedVariables false

theorem rgba64_keeps {k a b c d : Int} (h : valid k a b c d) : cv0 1 k a b c d = vR k a b c d ∧ cv1 1 k a b c d = vG k a b c d ∧ cv2 1 k a b c d = vB k a b c d ∧ cv3 1 k a b c d = vA k a b c d := by
  by_cases e : (1 : Int) = k
  · subst e
    exact cv_own 1 a b c d
  · exact cv_other e (by omega) a b c d

theorem full8 {x : Int} (h0 : 0 ≤ x) (h1 : x ≤ 255) : x * 257 * 255 % 4294967296 / 255 = x * 257 := by
  have e : x * 257 * 255 % 4294967296 = x * 257 * 255 := by omega
  rw [e]; omega

/-- Without transparency. -/
theorem opaque_same {k a b c d : Int} (h : valid k a b c d) (ho : vA k a b c d = 65535) :
    (cv0 3 k a b c d = cv0 1 k a b c d ∧ cv1 3 k a b c d = cv1 1 k a b c d ∧ cv2 3 k a b c d = cv2 1 k a b c d ∧ cv3 3 k a b c d = cv3 1 k a b c d) ∧
    (cv0 2 k a b c d = cv0 0 k a b c d ∧ cv1 2 k a b c d = cv1 0 k a b c d ∧ cv2 2 k a b c d = cv2 0 k a b c d ∧ cv3 2 k a b c d = cv3 0 k a b c d) ∧ cv3 0 k a b c d = 255 := by
  have hp := h.1
  unfold proper at hp
  have hr := vals_range h
  obtain ⟨p0, p1, p2, p3⟩ := rgba64_keeps h
  rw [p0, p1, p2, p3]
  refine ⟨?_, ?_, ?_⟩
  · by_cases e : (3 : Int) = k
    · subst e
      obtain ⟨e0, e1, e2, e3⟩ := cv_own 3 a b c d
      rw [e0, e1, e2, e3]
      have hd : d = 65535 := ho
      subst hd
      show a = a * 65535 % 4294967296 / 65535 ∧ b = b * 65535 % 4294967296 / 65535 ∧ c = c * 65535 % 4294967296 / 65535 ∧ (65535 : Int) = 65535
      omega
    · obtain ⟨e0, e1, e2, e3⟩ := cv_other e (by omega) a b c d
      rw [e0, e1, e2, e3]
      show un (vR k a b c d) (vA k a b c d) = _ ∧ un (vG k a b c d) (vA k a b c d) = _ ∧ un (vB k a b c d) (vA k a b c d) = _ ∧ vA k a b c d = _
      rw [ho, un_full, un_full, un_full]
      exact ⟨rfl, rfl, rfl, rfl⟩
  · by_cases e : (2 : Int) = k
    · subst e
      obtain ⟨e0, e1, e2, e3⟩ := cv_own 2 a b c d
      obtain ⟨f0, f1, f2, f3⟩ := cv_other (m := 0) (k := 2) (by omega) (by omega) a b c d
      rw [e0, e1, e2, e3, f0, f1, f2, f3]
      have hd : d * 257 = 65535 := ho
      obtain rfl : d = 255 := by omega
      show a = a * 257 * 255 % 4294967296 / 255 / 256 ∧ b = b * 257 * 255 % 4294967296 / 255 / 256 ∧ c = c * 257 * 255 % 4294967296 / 255 / 256 ∧ (255 : Int) = 255 * 257 / 256
      rw [full8 (by omega) (by omega), full8 (by omega) (by omega), full8 (by omega) (by omega)]
      omega
    · obtain ⟨e0, e1, e2, e3⟩ := cv_other e (by omega) a b c d
      rw [e0, e1, e2, e3]
      by_cases e' : (0 : Int) = k
      · subst e'
        obtain ⟨f0, f1, f2, f3⟩ := cv_own 0 a b c d
        rw [f0, f1, f2, f3]
        have hd : d * 257 = 65535 := ho
        show un (a * 257) (d * 257) / 256 = a ∧ un (b * 257) (d * 257) / 256 = b ∧ un (c * 257) (d * 257) / 256 = c ∧ d * 257 / 256 = d
        rw [hd, un_full, un_full, un_full]
        omega
      · obtain ⟨f0, f1, f2, f3⟩ := cv_other e' (by omega) a b c d
        rw [f0, f1, f2, f3]
        show un (vR k a b c d) (vA k a b c d) / 256 = vR k a b c d / 256 ∧ un (vG k a b c d) (vA k a b c d) / 256 = vG k a b c d / 256 ∧ un (vB k a b c d) (vA k a b c d) / 256 = vB k a b c d / 256 ∧ vA k a b c d / 256 = vA k a b c d / 256
        rw [ho, un_full, un_full, un_full]
        exact ⟨rfl, rfl, rfl, rfl⟩
  · by_cases e' : (0 : Int) = k
    · subst e'
      rw [(cv_own 0 a b c d).2.2.2]
      have hd : d * 257 = 65535 := ho
      omega
    · rw [(cv_other e' (by omega) a b c d).2.2.2]
      show vA k a b c d / 256 = 255
      omega

/-- The model with alpha keeps the alpha of a color that is not scaled. -/
theorem nycc_alpha (r g b a : Int) (ha0 : 0 ≤ a) (ha1 : a ≤ 255) : cv3 10 2 r g b a = a := by
  show a * 257 / 256 = a
  omega
theorem nycc_full {r g b : Int} (hr0 : 0 ≤ r) (hr1 : r ≤ 255) (hg0 : 0 ≤ g) (hg1 : g ≤ 255) (hb0 : 0 ≤ b) (hb1 : b ≤ 255) : cv0 10 2 r g b 255 = lumaOf r g b ∧ cv1 10 2 r g b 255 = cbOf r g b ∧ cv2 10 2 r g b 255 = crOf r g b := by
  have e : ∀ x : Int, 0 ≤ x → x ≤ 255 → un (x * 257 * 255 % 4294967296 / 255) (255 * 257) / 256 = x := by
    intro x h0 h1
    show un (x * 257 * 255 % 4294967296 / 255) 65535 / 256 = x
    rw [un_full, full8 h0 h1]
    omega
  refine ⟨?_, ?_, ?_⟩
  · show lumaOf (un (r * 257 * 255 % 4294967296 / 255) (255 * 257) / 256) (un (g * 257 * 255 % 4294967296 / 255) (255 * 257) / 256) (un (b * 257 * 255 % 4294967296 / 255) (255 * 257) / 256) = _
    rw [e r hr0 hr1, e g hg0 hg1, e b hb0 hb1]
  · show cbOf (un (r * 257 * 255 % 4294967296 / 255) (255 * 257) / 256) (un (g * 257 * 255 % 4294967296 / 255) (255 * 257) / 256) (un (b * 257 * 255 % 4294967296 / 255) (255 * 257) / 256) = _
    rw [e r hr0 hr1, e g hg0 hg1, e b hb0 hb1]
  · show crOf (un (r * 257 * 255 % 4294967296 / 255) (255 * 257) / 256) (un (g * 257 * 255 % 4294967296 / 255) (255 * 257) / 256) (un (b * 257 * 255 % 4294967296 / 255) (255 * 257) / 256) = _
    rw [e r hr0 hr1, e g hg0 hg1, e b hb0 hb1]

/-- A gray of 16 bits in the models of 16 bits. -/
theorem gray16_stays {m y : Int} (hm : m = 1 ∨ m = 3 ∨ m = 7) (h0 : 0 ≤ y) (h1 : y ≤ 65535) : wR m 7 y 0 0 0 = y ∧ wG m 7 y 0 0 0 = y ∧ wB m 7 y 0 0 0 = y ∧ wA m 7 y 0 0 0 = 65535 := by
  rcases hm with rfl | rfl | rfl
  · exact ⟨rfl, rfl, rfl, rfl⟩
  · have e : un y 65535 * 65535 % 4294967296 / 65535 = y := by rw [un_full]; omega
    exact ⟨e, e, e, rfl⟩
  · exact ⟨rfl, rfl, rfl, rfl⟩
/-- A gray of 8 bits in the models of 8 bits. -/
theorem gray8_stays {m z : Int} (hm : m = 0 ∨ m = 2 ∨ m = 6 ∨ m = 9 ∨ m = 10) (h0 : 0 ≤ z) (h1 : z ≤ 255) : wR m 6 z 0 0 0 = z * 257 ∧ wG m 6 z 0 0 0 = z * 257 ∧ wB m 6 z 0 0 0 = z * 257 ∧ wA m 6 z 0 0 0 = 65535 := by
  have u : z * 257 / 256 = z := by omega
  have uu : un (z * 257) 65535 / 256 = z := by rw [un_full]; omega
  obtain ⟨g0, g1, g2, g3, g4, g5⟩ := gray_luma z h0 h1
  have k0 : cl16 (z * 65793 + 91881 * (128 - 128)) = z * 257 := by unfold cl16; omega
  have k1 : cl16 (z * 65793 - 22554 * (128 - 128) - 46802 * (128 - 128)) = z * 257 := by unfold cl16; omega
  have k2 : cl16 (z * 65793 + 116130 * (128 - 128)) = z * 257 := by unfold cl16; omega
  rcases hm with rfl | rfl | rfl | rfl | rfl
  · have e : z * 257 / 256 * 257 = z * 257 := by omega
    exact ⟨e, e, e, rfl⟩
  · have e : un (z * 257) 65535 / 256 * 257 * (65535 / 256) % 4294967296 / 255 = z * 257 := by rw [uu]; omega
    exact ⟨e, e, e, rfl⟩
  · exact ⟨rfl, rfl, rfl, rfl⟩
  · refine ⟨?_, ?_, ?_, rfl⟩
    · show cl16 (lumaOf (z * 257 / 256) (z * 257 / 256) (z * 257 / 256) * 65793 + 91881 * (crOf (z * 257 / 256) (z * 257 / 256) (z * 257 / 256) - 128)) = _
      rw [u, g0, g2]; exact k0
    · show cl16 (lumaOf (z * 257 / 256) (z * 257 / 256) (z * 257 / 256) * 65793 - 22554 * (cbOf (z * 257 / 256) (z * 257 / 256) (z * 257 / 256) - 128) - 46802 * (crOf (z * 257 / 256) (z * 257 / 256) (z * 257 / 256) - 128)) = _
      rw [u, g0, g1, g2]; exact k1
    · show cl16 (lumaOf (z * 257 / 256) (z * 257 / 256) (z * 257 / 256) * 65793 + 116130 * (cbOf (z * 257 / 256) (z * 257 / 256) (z * 257 / 256) - 128)) = _
      rw [u, g0, g1]; exact k2
  · have q : ∀ x : Int, x = z * 257 → x * (65535 / 256 * 257) % 4294967296 / 65535 = z * 257 := by intro x hx; subst hx; omega
    refine ⟨?_, ?_, ?_, rfl⟩
    · refine q (cl16 (lumaOf (un (z * 257) 65535 / 256) (un (z * 257) 65535 / 256) (un (z * 257) 65535 / 256) * 65793 + 91881 * (crOf (un (z * 257) 65535 / 256) (un (z * 257) 65535 / 256) (un (z * 257) 65535 / 256) - 128))) ?_
      rw [uu, g0, g2]; exact k0
    · refine q (cl16 (lumaOf (un (z * 257) 65535 / 256) (un (z * 257) 65535 / 256) (un (z * 257) 65535 / 256) * 65793 - 22554 * (cbOf (un (z * 257) 65535 / 256) (un (z * 257) 65535 / 256) (un (z * 257) 65535 / 256) - 128) - 46802 * (crOf (un (z * 257) 65535 / 256) (un (z * 257) 65535 / 256) (un (z * 257) 65535 / 256) - 128))) ?_
      rw [uu, g0, g1, g2]; exact k1
    · refine q (cl16 (lumaOf (un (z * 257) 65535 / 256) (un (z * 257) 65535 / 256) (un (z * 257) 65535 / 256) * 65793 + 116130 * (cbOf (un (z * 257) 65535 / 256) (un (z * 257) 65535 / 256) (un (z * 257) 65535 / 256) - 128))) ?_
      rw [uu, g0, g1]; exact k2
end Go.Proofs.Ytkjcaiakcailnaa.Plain
