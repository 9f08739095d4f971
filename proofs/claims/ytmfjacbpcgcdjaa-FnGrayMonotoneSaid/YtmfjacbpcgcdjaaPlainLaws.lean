/- The plain laws of the models: how near the values of what a model makes are to the values of the color. No program in sight. -/
import Derived.Test.YtmfjacbpcgcdjaaPlainCv
namespace Go.Proofs.Ytmfjacbpcgcdjaa.Plain
set_option linter.unusedVariables false

/-- The values of what model m makes of a color. -/
def wR (m k a b c d : Int) : Int := vR m (cv0 m k a b c d) (cv1 m k a b c d) (cv2 m k a b c d) (cv3 m k a b c d)
def wG (m k a b c d : Int) : Int := vG m (cv0 m k a b c d) (cv1 m k a b c d) (cv2 m k a b c d) (cv3 m k a b c d)
def wB (m k a b c d : Int) : Int := vB m (cv0 m k a b c d) (cv1 m k a b c d) (cv2 m k a b c d) (cv3 m k a b c d)
def wA (m k a b c d : Int) : Int := vA m (cv0 m k a b c d) (cv1 m k a b c d) (cv2 m k a b c d) (cv3 m k a b c d)

theorem w_own (k a b c d : Int) : wR k k a b c d = vR k a b c d ∧ wG k k a b c d = vG k a b c d ∧ wB k k a b c d = vB k a b c d ∧ wA k k a b c d = vA k a b c d := by
  obtain ⟨e0, e1, e2, e3⟩ := cv_own k a b c d
  unfold wR wG wB wA
  rw [e0, e1, e2, e3]
  exact ⟨rfl, rfl, rfl, rfl⟩

/-- How far two numbers are apart is at most so much. -/
def nearTo (x y n : Int) : Prop := max (x - y) (y - x) ≤ n

theorem near_rgba {k a b c d : Int} (h : valid k a b c d) : nearTo (wR 0 k a b c d) (vR k a b c d) 256 ∧ nearTo (wG 0 k a b c d) (vG k a b c d) 256 ∧ nearTo (wB 0 k a b c d) (vB k a b c d) 256 ∧ nearTo (wA 0 k a b c d) (vA k a b c d) 256 := by
  by_cases e : (0 : Int) = k
  · subst e
    obtain ⟨e0, e1, e2, e3⟩ := w_own 0 a b c d
    rw [e0, e1, e2, e3]; unfold nearTo; omega
  · obtain ⟨e0, e1, e2, e3⟩ := cv_other e (by omega) a b c d
    have hr := vals_range h
    unfold wR wG wB wA
    rw [e0, e1, e2, e3]
    generalize vR k a b c d = r at *
    generalize vG k a b c d = g at *
    generalize vB k a b c d = u at *
    generalize vA k a b c d = v at *
    show nearTo (r / 256 * 257) r 256 ∧ nearTo (g / 256 * 257) g 256 ∧ nearTo (u / 256 * 257) u 256 ∧ nearTo (v / 256 * 257) v 256
    unfold nearTo; omega

theorem un_back {r a : Int} (h0 : 0 ≤ r) (h1 : r ≤ a) (h2 : a ≤ 65535) : r - 1 ≤ un r a * a % 4294967296 / 65535 ∧ un r a * a % 4294967296 / 65535 ≤ r := by
  have hu := un_range h0 h1
  have s := scale65535 hu.1 hu.2 (y := a) (by omega) h2
  rw [s.2.2]
  clear s hu
  unfold un
  split
  · omega
  · have ha : 0 < a := by omega
    have a1 := Int.ediv_mul_le (r * 65535) (Int.ne_of_gt ha)
    have a2 := Int.lt_ediv_add_one_mul_self (r * 65535) ha
    rw [Int.add_mul] at a2
    generalize r * 65535 / a * a = t at *
    omega

theorem near_nrgba64 {k a b c d : Int} (h : valid k a b c d) : nearTo (wR 3 k a b c d) (vR k a b c d) 1 ∧ nearTo (wG 3 k a b c d) (vG k a b c d) 1 ∧ nearTo (wB 3 k a b c d) (vB k a b c d) 1 ∧ nearTo (wA 3 k a b c d) (vA k a b c d) 1 ∧ cv3 3 k a b c d = vA k a b c d := by
  by_cases e : (3 : Int) = k
  · subst e
    obtain ⟨e0, e1, e2, e3⟩ := w_own 3 a b c d
    rw [e0, e1, e2, e3, (cv_own 3 a b c d).2.2.2]
    refine ⟨?_, ?_, ?_, ?_, rfl⟩ <;> (unfold nearTo; omega)
  · obtain ⟨e0, e1, e2, e3⟩ := cv_other e (by omega) a b c d
    have hr := vals_range h
    unfold wR wG wB wA
    rw [e0, e1, e2, e3]
    generalize vR k a b c d = r at *
    generalize vG k a b c d = g at *
    generalize vB k a b c d = u at *
    generalize vA k a b c d = v at *
    have u1 := un_back hr.1 hr.2.1 hr.2.2.2.2.2.2.2
    have u2 := un_back hr.2.2.1 hr.2.2.2.1 hr.2.2.2.2.2.2.2
    have u3 := un_back hr.2.2.2.2.1 hr.2.2.2.2.2.1 hr.2.2.2.2.2.2.2
    show nearTo (un r v * v % 4294967296 / 65535) r 1 ∧ nearTo (un g v * v % 4294967296 / 65535) g 1 ∧ nearTo (un u v * v % 4294967296 / 65535) u 1 ∧ nearTo v v 1 ∧ v = v
    refine ⟨?_, ?_, ?_, ?_, rfl⟩ <;> (unfold nearTo; omega)

/-- 8 bits without the scaling, scaled again: less than two steps of 8 bits away. -/
theorem un8_back {r a : Int} (h0 : 0 ≤ r) (h1 : r ≤ a) (h2 : a ≤ 65535) : r - 513 ≤ un r a / 256 * 257 * (a / 256) % 4294967296 / 255 ∧ un r a / 256 * 257 * (a / 256) % 4294967296 / 255 ≤ r + 513 := by
  have hu := un_range h0 h1
  have ub : r * 65535 - 65535 < un r a * a ∧ un r a * a ≤ r * 65535 := by
    unfold un
    split
    · omega
    · have ha : 0 < a := by omega
      have a1 := Int.ediv_mul_le (r * 65535) (Int.ne_of_gt ha)
      have a2 := Int.lt_ediv_add_one_mul_self (r * 65535) ha
      rw [Int.add_mul] at a2
      generalize r * 65535 / a * a = t at *
      omega
  generalize un r a = q at *
  obtain ⟨x, hx⟩ : ∃ x, x = q / 256 := ⟨_, rfl⟩
  obtain ⟨y, hy⟩ : ∃ y, y = a / 256 := ⟨_, rfl⟩
  rw [← hx, ← hy]
  have s := scale255 (x := x) (y := y) (by omega) (by omega) (by omega) (by omega)
  rw [s.2.2]
  clear s
  -- x * 257 lies within 255 of q, y * 257 within 255 of a
  have hxq : q - 255 ≤ x * 257 ∧ x * 257 ≤ q + 255 := by omega
  have hya : a - 255 ≤ y * 257 ∧ y * 257 ≤ a + 255 := by omega
  have p1 : x * 257 * (y * 257) ≤ (q + 255) * (y * 257) := Int.mul_le_mul_of_nonneg_right hxq.2 (by omega)
  have p2 : (q - 255) * (y * 257) ≤ x * 257 * (y * 257) := Int.mul_le_mul_of_nonneg_right hxq.1 (by omega)
  have p3 : q * (y * 257) ≤ q * (a + 255) := Int.mul_le_mul_of_nonneg_left hya.2 hu.1
  have p4 : q * (a - 255) ≤ q * (y * 257) := Int.mul_le_mul_of_nonneg_left hya.1 hu.1
  have e1 : (q + 255) * (y * 257) = q * (y * 257) + 65535 * y := by grind
  have e2 : (q - 255) * (y * 257) = q * (y * 257) - 65535 * y := by grind
  have e3 : q * (a + 255) = q * a + 255 * q := by grind
  have e4 : q * (a - 255) = q * a - 255 * q := by grind
  have e5 : x * 257 * (y * 257) = 257 * (x * 257 * y) := by grind
  rw [e1] at p1; rw [e2] at p2; rw [e3] at p3; rw [e4] at p4; rw [e5] at p1 p2
  clear e1 e2 e3 e4 e5
  generalize x * 257 * y = m at *
  generalize q * a = t at *
  generalize q * (y * 257) = s at *
  have hy1 : y ≤ 255 := by omega
  clear hx hy hxq hya
  omega

theorem near_nrgba {k a b c d : Int} (h : valid k a b c d) : nearTo (wR 2 k a b c d) (vR k a b c d) 513 ∧ nearTo (wG 2 k a b c d) (vG k a b c d) 513 ∧ nearTo (wB 2 k a b c d) (vB k a b c d) 513 ∧ nearTo (wA 2 k a b c d) (vA k a b c d) 513 := by
  by_cases e : (2 : Int) = k
  · subst e
    obtain ⟨e0, e1, e2, e3⟩ := w_own 2 a b c d
    rw [e0, e1, e2, e3]; unfold nearTo; omega
  · obtain ⟨e0, e1, e2, e3⟩ := cv_other e (by omega) a b c d
    have hr := vals_range h
    unfold wR wG wB wA
    rw [e0, e1, e2, e3]
    generalize vR k a b c d = r at *
    generalize vG k a b c d = g at *
    generalize vB k a b c d = u at *
    generalize vA k a b c d = v at *
    have u1 := un8_back hr.1 hr.2.1 hr.2.2.2.2.2.2.2
    have u2 := un8_back hr.2.2.1 hr.2.2.2.1 hr.2.2.2.2.2.2.2
    have u3 := un8_back hr.2.2.2.2.1 hr.2.2.2.2.2.1 hr.2.2.2.2.2.2.2
    show nearTo (un r v / 256 * 257 * (v / 256) % 4294967296 / 255) r 513 ∧ nearTo (un g v / 256 * 257 * (v / 256) % 4294967296 / 255) g 513 ∧ nearTo (un u v / 256 * 257 * (v / 256) % 4294967296 / 255) u 513 ∧ nearTo (v / 256 * 257) v 513
    refine ⟨?_, ?_, ?_, ?_⟩ <;> (unfold nearTo; omega)
end Go.Proofs.Ytmfjacbpcgcdjaa.Plain
