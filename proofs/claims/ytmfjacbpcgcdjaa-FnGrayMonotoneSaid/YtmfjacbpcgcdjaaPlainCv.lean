/- What Convert makes of a color, as plain numbers. -/
import Derived.Test.YtmfjacbpcgcdjaaPlainConv
namespace Go.Proofs.Ytmfjacbpcgcdjaa.Plain
set_option linter.unusedVariables false
def cv0 (m k a b c d : Int) : Int := if m = k then a else if m = 10 ∧ k = 9 then a else c0 m (vR k a b c d) (vG k a b c d) (vB k a b c d) (vA k a b c d)
def cv1 (m k a b c d : Int) : Int := if m = k then b else if m = 10 ∧ k = 9 then b else c1 m (vR k a b c d) (vG k a b c d) (vB k a b c d) (vA k a b c d)
def cv2 (m k a b c d : Int) : Int := if m = k then c else if m = 10 ∧ k = 9 then c else c2 m (vR k a b c d) (vG k a b c d) (vB k a b c d) (vA k a b c d)
def cv3 (m k a b c d : Int) : Int := if m = k then d else if m = 10 ∧ k = 9 then 255 else c3 m (vR k a b c d) (vG k a b c d) (vB k a b c d) (vA k a b c d)

theorem cv_own (k a b c d : Int) : cv0 k k a b c d = a ∧ cv1 k k a b c d = b ∧ cv2 k k a b c d = c ∧ cv3 k k a b c d = d := by
  unfold cv0 cv1 cv2 cv3; rw [if_pos rfl, if_pos rfl, if_pos rfl, if_pos rfl]; exact ⟨rfl, rfl, rfl, rfl⟩
theorem cv_ycc (a b c d : Int) : cv0 10 9 a b c d = a ∧ cv1 10 9 a b c d = b ∧ cv2 10 9 a b c d = c ∧ cv3 10 9 a b c d = 255 := ⟨rfl, rfl, rfl, rfl⟩
theorem cv_other {m k : Int} (h : m ≠ k) (h' : ¬ (m = 10 ∧ k = 9)) (a b c d : Int) : cv0 m k a b c d = c0 m (vR k a b c d) (vG k a b c d) (vB k a b c d) (vA k a b c d) ∧ cv1 m k a b c d = c1 m (vR k a b c d) (vG k a b c d) (vB k a b c d) (vA k a b c d) ∧ cv2 m k a b c d = c2 m (vR k a b c d) (vG k a b c d) (vB k a b c d) (vA k a b c d) ∧ cv3 m k a b c d = c3 m (vR k a b c d) (vG k a b c d) (vB k a b c d) (vA k a b c d) := by
  unfold cv0 cv1 cv2 cv3; rw [if_neg h, if_neg h, if_neg h, if_neg h, if_neg h', if_neg h', if_neg h', if_neg h']; exact ⟨rfl, rfl, rfl, rfl⟩

/-- What Convert makes is valid. -/
theorem cv_valid {m k a b c d : Int} (hm : m = 0 ∨ m = 1 ∨ m = 2 ∨ m = 3 ∨ m = 4 ∨ m = 5 ∨ m = 6 ∨ m = 7 ∨ m = 8 ∨ m = 9 ∨ m = 10) (h : valid k a b c d) :
    valid m (cv0 m k a b c d) (cv1 m k a b c d) (cv2 m k a b c d) (cv3 m k a b c d) := by
  by_cases e : m = k
  · subst e
    obtain ⟨e0, e1, e2, e3⟩ := cv_own m a b c d
    rw [e0, e1, e2, e3]
    exact h
  by_cases e' : m = 10 ∧ k = 9
  · obtain ⟨rfl, rfl⟩ := e'
    show valid 10 a b c 255
    unfold valid proper at *
    omega
  · obtain ⟨e0, e1, e2, e3⟩ := cv_other e e' a b c d
    rw [e0, e1, e2, e3]
    exact conv_valid hm (vals_range h)
end Go.Proofs.Ytmfjacbpcgcdjaa.Plain
