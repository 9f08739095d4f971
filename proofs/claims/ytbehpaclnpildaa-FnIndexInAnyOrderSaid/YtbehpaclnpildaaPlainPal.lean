/- The plain laws of palettes: the index that the code keeps is that of a least sum; sums and squares of distances. No program in sight. -/
import Derived.Test.YtbehpaclnpildaaIndex
import Derived.Test.YtbehpaclnpildaaSmall
namespace Go.Proofs.Ytbehpaclnpildaa
open Plain
set_option linter.unusedVariables false
namespace Plain
theorem getD_at {ss : List Int} {k : Nat} (h : k < ss.length) : ss.getD k 0 = ss[k] := by rw [List.getD_eq_getElem?_getD, List.getElem?_eq_getElem h]; rfl
/-- The kept index is one of the first so many, its sum is kept, and none is less. -/
theorem bestTo_least {ss : List Int} (h : ∀ s ∈ ss, 0 ≤ s ∧ s ≤ 4294967294) (k : Nat) (hk : k ≤ ss.length) :
    (0 < k → (bestTo ss k).1 < k ∧ (bestTo ss k).2 = ss.getD (bestTo ss k).1 0) ∧ ∀ j, j < k → (bestTo ss k).2 ≤ ss.getD j 0 := by
  induction k with
  | zero => exact ⟨fun h => absurd h (by omega), fun j hj => absurd hj (by omega)⟩
  | succ k ih =>
    obtain ⟨h1, h2⟩ := ih (by omega)
    have hr := h _ (List.getElem_mem (l := ss) (n := k) (by omega))
    rw [← getD_at (ss := ss) (k := k) (by omega)] at hr
    by_cases hl : ss.getD k 0 < (bestTo ss k).2
    · rw [bestTo_lt hl]
      refine ⟨fun _ => ⟨Nat.lt_succ_self k, rfl⟩, fun j hj => ?_⟩
      show ss.getD k 0 ≤ ss.getD j 0
      rcases Nat.lt_or_eq_of_le (Nat.lt_succ_iff.1 hj) with hj' | rfl
      · have := h2 j hj'; omega
      · exact Int.le_refl _
    · rw [bestTo_ge hl]
      refine ⟨fun _ => ?_, fun j hj => ?_⟩
      · rcases Nat.eq_zero_or_pos k with rfl | hp
        · exact absurd (show ss.getD 0 0 < 4294967295 by omega) hl
        · obtain ⟨a, b⟩ := h1 hp
          exact ⟨by omega, b⟩
      · rcases Nat.lt_or_eq_of_le (Nat.lt_succ_iff.1 hj) with hj' | rfl
        · exact h2 j hj'
        · omega
theorem sqr_mod4 (z : Int) : z * z % 4 = 0 ∨ z * z % 4 = 1 := by
  have h : z % 4 = 0 ∨ z % 4 = 1 ∨ z % 4 = 2 ∨ z % 4 = 3 := by omega
  rw [Int.mul_emod]
  rcases h with h | h | h | h <;> rw [h] <;> decide
/-- Four sums are the square of the distance, at most 4 less. -/
theorem qsum_dist (x0 x1 x2 x3 y0 y1 y2 y3 : Int) : 4 * qsum y0 y1 y2 y3 x0 x1 x2 x3 ≤ dist x0 x1 x2 x3 y0 y1 y2 y3 ∧ dist x0 x1 x2 x3 y0 y1 y2 y3 ≤ 4 * qsum y0 y1 y2 y3 x0 x1 x2 x3 + 4 := by
  have e : ∀ x y : Int, apart2 x y = (y - x) * (y - x) := fun x y => by rw [apart2_eq]; grind
  unfold dist qsum sq
  rw [e, e, e, e]
  have m0 := sqr_mod4 (y0 - x0)
  have m1 := sqr_mod4 (y1 - x1)
  have m2 := sqr_mod4 (y2 - x2)
  have m3 := sqr_mod4 (y3 - x3)
  generalize (y0 - x0) * (y0 - x0) = a0 at *
  generalize (y1 - x1) * (y1 - x1) = a1 at *
  generalize (y2 - x2) * (y2 - x2) = a2 at *
  generalize (y3 - x3) * (y3 - x3) = a3 at *
  omega
theorem small_vals {k a b c d : Int} (h : small k a b c d) : ∃ r g bl al : Int, vR k a b c d = 257 * r ∧ vG k a b c d = 257 * g ∧ vB k a b c d = 257 * bl ∧ vA k a b c d = 257 * al := by
  obtain ⟨_, hk⟩ := h
  rcases hk with rfl | rfl | rfl
  · exact ⟨a, b, c, d, Int.mul_comm _ _, Int.mul_comm _ _, Int.mul_comm _ _, Int.mul_comm _ _⟩
  · exact ⟨a, a, a, a, Int.mul_comm _ _, Int.mul_comm _ _, Int.mul_comm _ _, Int.mul_comm _ _⟩
  · exact ⟨a, a, a, 255, Int.mul_comm _ _, Int.mul_comm _ _, Int.mul_comm _ _, rfl⟩
theorem apart2_257 (x y : Int) : apart2 (257 * x) (257 * y) = 66049 * ((x - y) * (x - y)) := by rw [apart2_eq]; grind
theorem dist_self (x0 x1 x2 x3 : Int) : dist x0 x1 x2 x3 x0 x1 x2 x3 = 0 := by
  unfold dist
  rw [apart2_eq, apart2_eq, apart2_eq, apart2_eq]
  simp
theorem sqr_nonneg (z : Int) : 0 ≤ z * z := by
  rcases Int.le_total 0 z with h | h
  · exact Int.mul_nonneg h h
  · have : z * z = (-z) * (-z) := by grind
    rw [this]; exact Int.mul_nonneg (by omega) (by omega)
theorem sqr_zero {z : Int} (h : z * z = 0) : z = 0 := by
  rcases Int.mul_eq_zero.1 h with h | h <;> exact h
theorem dist_zero {x0 x1 x2 x3 y0 y1 y2 y3 : Int} (h : dist x0 x1 x2 x3 y0 y1 y2 y3 ≤ 0) : x0 = y0 ∧ x1 = y1 ∧ x2 = y2 ∧ x3 = y3 := by
  unfold dist at h
  rw [apart2_eq, apart2_eq, apart2_eq, apart2_eq] at h
  have n0 := sqr_nonneg (x0 - y0)
  have n1 := sqr_nonneg (x1 - y1)
  have n2 := sqr_nonneg (x2 - y2)
  have n3 := sqr_nonneg (x3 - y3)
  have z0 := sqr_zero (z := x0 - y0) (by omega)
  have z1 := sqr_zero (z := x1 - y1) (by omega)
  have z2 := sqr_zero (z := x2 - y2) (by omega)
  have z3 := sqr_zero (z := x3 - y3) (by omega)
  omega
end Plain
/-- The square of the distance of two colors' values. -/
def distOf (x y : Col) : Int := dist (vR x.k x.a x.b x.c x.d) (vG x.k x.a x.b x.c x.d) (vB x.k x.a x.b x.c x.d) (vA x.k x.a x.b x.c x.d) (vR y.k y.a y.b y.c y.d) (vG y.k y.a y.b y.c y.d) (vB y.k y.a y.b y.c y.d) (vA y.k y.a y.b y.c y.d)
/-- A small color. -/
def Col.small (x : Col) : Prop := Plain.small x.k x.a x.b x.c x.d
/-- The index that the code tells. -/
def best (y : Col) (ps : List Col) : Nat := (bestTo (ps.map (sumOf y)) ps.length).1

theorem sum_dist (x y : Col) : 4 * sumOf y x ≤ distOf x y ∧ distOf x y ≤ 4 * sumOf y x + 4 := qsum_dist _ _ _ _ _ _ _ _
theorem dist_mul {x y : Col} (hx : x.small) (hy : y.small) : ∃ m, distOf x y = 66049 * m := by
  obtain ⟨r, g, b, a, h0, h1, h2, h3⟩ := small_vals hx
  obtain ⟨r', g', b', a', h0', h1', h2', h3'⟩ := small_vals hy
  unfold distOf dist
  rw [h0, h1, h2, h3, h0', h1', h2', h3', apart2_257, apart2_257, apart2_257, apart2_257]
  exact ⟨(r - r') * (r - r') + (g - g') * (g - g') + (b - b') * (b - b') + (a - a') * (a - a'), by omega⟩
/-- The told index is one of the palette, and its sum is a least one. -/
theorem best_least {y : Col} {ps : List Col} (hy : y.valid) (hv : ∀ x ∈ ps, x.valid) (hp : 0 < ps.length) : ∃ z, ps[best y ps]? = some z ∧ ∀ x ∈ ps, sumOf y z ≤ sumOf y x := by
  obtain ⟨h1, h2⟩ := bestTo_least (sums_range hy hv) ps.length (by rw [List.length_map]; exact Nat.le_refl _)
  obtain ⟨a, b⟩ := h1 hp
  have hb : best y ps < ps.length := a
  refine ⟨ps[best y ps], List.getElem?_eq_getElem hb, fun x hx => ?_⟩
  obtain ⟨j, hj, rfl⟩ := List.getElem_of_mem hx
  have := h2 j hj
  rw [b, getD_at (by rw [List.length_map]; exact a), getD_at (by rw [List.length_map]; exact hj), List.getElem_map, List.getElem_map] at this
  exact this
theorem best_lt {y : Col} {ps : List Col} (hy : y.valid) (hv : ∀ x ∈ ps, x.valid) (hp : 0 < ps.length) : best y ps < ps.length := by
  obtain ⟨z, hz, _⟩ := best_least hy hv hp
  exact (List.getElem?_eq_some_iff.1 hz).1
/-- No color is closer by 16 or more. -/
theorem best_near {y z : Col} {ps : List Col} (hy : y.valid) (hv : ∀ x ∈ ps, x.valid) (hp : 0 < ps.length) (hz : ps[best y ps]? = some z) : ∀ x ∈ ps, distOf z y < distOf x y + 16 := by
  obtain ⟨z', hz', hl⟩ := best_least hy hv hp
  obtain rfl : z = z' := by rw [hz] at hz'; exact Option.some.inj hz'
  intro x hx
  have h := hl x hx
  have a := sum_dist x y
  have b := sum_dist z y
  omega
theorem Col.small.valid {x : Col} (h : x.small) : x.valid := h.1
/-- Of small colors none is closer. -/
theorem best_small {y z : Col} {ps : List Col} (hy : y.small) (hv : ∀ x ∈ ps, x.small) (hp : 0 < ps.length) (hz : ps[best y ps]? = some z) : ∀ x ∈ ps, distOf z y ≤ distOf x y := by
  obtain ⟨z', hz', hl⟩ := best_least hy.valid (fun x hx => (hv x hx).valid) hp
  obtain rfl : z = z' := by rw [hz] at hz'; exact Option.some.inj hz'
  intro x hx
  have h := hl x hx
  have a := sum_dist x y
  have b := sum_dist z y
  obtain ⟨m, hm⟩ := dist_mul (hv x hx) hy
  obtain ⟨n, hn⟩ := dist_mul (hv z (List.mem_of_getElem? hz)) hy
  omega
/-- The values of two colors are the same. -/
def same (x y : Col) : Prop := vR x.k x.a x.b x.c x.d = vR y.k y.a y.b y.c y.d ∧ vG x.k x.a x.b x.c x.d = vG y.k y.a y.b y.c y.d ∧ vB x.k x.a x.b x.c x.d = vB y.k y.a y.b y.c y.d ∧ vA x.k x.a x.b x.c x.d = vA y.k y.a y.b y.c y.d
theorem best_member {y z : Col} {ps : List Col} (hv : ∀ x ∈ ps, x.small) (hm : y ∈ ps) (hz : ps[best y ps]? = some z) : same z y := by
  have h := best_small (hv y hm) hv (List.length_pos_of_mem hm) hz y hm
  have e : distOf y y = 0 := dist_self _ _ _ _
  rw [e] at h
  exact dist_zero h
end Go.Proofs.Ytbehpaclnpildaa
