/- Palette.Index returns the index of the first color with the least sum. -/
import Derived.Test.YtbehpaclnpildaaPalette
import Derived.Test.YtbehpaclnpildaaDist
namespace Go.Proofs.Ytbehpaclnpildaa
namespace Plain
/-- Index and sum of the best of the first so many sums, as the code keeps them. -/
def bestTo (ss : List Int) : Nat → Nat × Int
  | 0 => (0, 4294967295)
  | k + 1 => if ss.getD k 0 < (bestTo ss k).2 then (k, ss.getD k 0) else bestTo ss k

theorem bestTo_lt {ss : List Int} {k : Nat} (h : ss.getD k 0 < (bestTo ss k).2) : bestTo ss (k + 1) = (k, ss.getD k 0) := by
  show (if _ then _ else _) = _
  rw [if_pos h]
theorem bestTo_ge {ss : List Int} {k : Nat} (h : ¬ ss.getD k 0 < (bestTo ss k).2) : bestTo ss (k + 1) = bestTo ss k := by
  show (if _ then _ else _) = _
  rw [if_neg h]
theorem bestTo_range {ss : List Int} (h : ∀ s ∈ ss, 0 ≤ s ∧ s ≤ 4294967294) (k : Nat) (hk : k ≤ ss.length) : 0 ≤ (bestTo ss k).2 ∧ (bestTo ss k).2 ≤ 4294967295 ∧ ((bestTo ss k).1 ≤ k) := by
  induction k with
  | zero => exact ⟨show (0 : Int) ≤ 4294967295 by decide, show (4294967295 : Int) ≤ 4294967295 by decide, Nat.le_refl _⟩
  | succ k ih =>
    obtain ⟨h0, h1, h2⟩ := ih (by omega)
    have hs : ss.getD k 0 = ss[k]'(by omega) := by rw [List.getD_eq_getElem?_getD, List.getElem?_eq_getElem (by omega)]; rfl
    have hr := h _ (List.getElem_mem (l := ss) (n := k) (by omega))
    by_cases hl : ss.getD k 0 < (bestTo ss k).2
    · rw [bestTo_lt hl]
      show 0 ≤ ss.getD k 0 ∧ ss.getD k 0 ≤ 4294967295 ∧ k ≤ k + 1
      rw [hs]; omega
    · rw [bestTo_ge hl]; omega
/-- Behind a sum 0 nothing is better. -/
theorem bestTo_zero {ss : List Int} (h : ∀ s ∈ ss, 0 ≤ s ∧ s ≤ 4294967294) {k : Nat} (hz : (bestTo ss k).2 = 0) (n : Nat) (hn : k + n ≤ ss.length) : bestTo ss (k + n) = bestTo ss k := by
  induction n with
  | zero => rfl
  | succ n ih =>
    have e := ih (by omega)
    have hs : ss.getD (k + n) 0 = ss[k + n]'(by omega) := by rw [List.getD_eq_getElem?_getD, List.getElem?_eq_getElem (by omega)]; rfl
    have hr := h _ (List.getElem_mem (l := ss) (n := k + n) (by omega))
    show bestTo ss (k + n + 1) = _
    rw [bestTo_ge (by rw [e, hz, hs]; omega), e]
end Plain
open Go.ChangeShapes Go.WideShapes Go.ChangeAt Go.RowKit Plain
set_option linter.unusedVariables false
/-- What the code adds up for two colors. -/
def sumOf (y x : Col) : Int := qsum (vR y.k y.a y.b y.c y.d) (vG y.k y.a y.b y.c y.d) (vB y.k y.a y.b y.c y.d) (vA y.k y.a y.b y.c y.d) (vR x.k x.a x.b x.c x.d) (vG x.k x.a x.b x.c x.d) (vB x.k x.a x.b x.c x.d) (vA x.k x.a x.b x.c x.d)
/-- A valid color. -/
def Col.valid (x : Col) : Prop := Plain.valid x.k x.a x.b x.c x.d
theorem sumOf_range {y x : Col} (hy : y.valid) (hx : x.valid) : 0 ≤ sumOf y x ∧ sumOf y x ≤ 4294836224 := by
  have ry := vals_range hy
  have rx := vals_range hx
  have s0 := sq_range (x := vR y.k y.a y.b y.c y.d) (y := vR x.k x.a x.b x.c x.d) (by omega) (by omega) (by omega) (by omega)
  have s1 := sq_range (x := vG y.k y.a y.b y.c y.d) (y := vG x.k x.a x.b x.c x.d) (by omega) (by omega) (by omega) (by omega)
  have s2 := sq_range (x := vB y.k y.a y.b y.c y.d) (y := vB x.k x.a x.b x.c x.d) (by omega) (by omega) (by omega) (by omega)
  have s3 := sq_range (x := vA y.k y.a y.b y.c y.d) (y := vA x.k x.a x.b x.c x.d) (by omega) (by omega) (by omega) (by omega)
  unfold sumOf qsum
  omega

theorem sums_range {y : Col} {ps : List Col} (hy : y.valid) (hv : ∀ x ∈ ps, x.valid) : ∀ s ∈ ps.map (sumOf y), 0 ≤ s ∧ s ≤ 4294967294 := by
  intro s hs
  obtain ⟨x, hx, rfl⟩ := List.mem_map.1 hs
  have := sumOf_range hy (hv x hx)
  omega
theorem sums_at {y x : Col} {ps : List Col} {q : Nat} (hx : ps[q]? = some x) : (ps.map (sumOf y)).getD q 0 = sumOf y x := by
  rw [List.getD_eq_getElem?_getD, List.getElem?_map, hx]; rfl
set_option maxHeartbeats 4000000 in
theorem paletteIndex (g len cap : Nat) (ps : List Col) (y : Col) (w : World) (hc : ∀ (i : Nat) (x : Col), ps[i]? = some x → w.cell? ⟨g, i, none⟩ = some (iv x)) (hv : ∀ x ∈ ps, x.valid) (hy : y.valid) (hlen : ps.length = len) (hm : len ≤ 2147483648) :
    Calls Try.prog 26 #[.slice (some ⟨g, 0, none⟩) len cap, .iface (tyOf y.k) (pay y.k y.a y.b y.c y.d)] w fun e w' => e = .returned (.int .i64 (bestTo (ps.map (sumOf y)) len).1) ∧ Below w.heap.size w w' := by
  obtain ⟨ry, fy, xy, hmy, hny, hcy⟩ := shows_any y.k y.a y.b y.c y.d hy
  have HCY := Lib.hid hcy
  have HC := Lib.hid hc
  have HV := Lib.hid hv
  have HL := Lib.hid hlen
  have HY := Lib.hid hy
  clear hcy hc hv hlen hy
  go_enter Try.func26, Try.ntmps26
  go_wp2_with fail
  refine (HCY.out _).mono ?_
  rintro e w1 ⟨rfl, b1⟩
  go_wp2_with fail
  go_loopw [9, 10, 27] (fun r s i wr => ∃ q : Nat, q ≤ len ∧ i = .int .i64 q ∧ r = .int .i64 (bestTo (ps.map (sumOf y)) q).1 ∧ s = .int .u32 (bestTo (ps.map (sumOf y)) q).2 ∧ Below w.heap.size w wr) (fun _ _ i _ => len - (intOf i).toNat)
  case atStart => exact ⟨0, Nat.zero_le _, rfl, rfl, rfl, b1⟩
  case round =>
    obtain ⟨q, hq, rfl, rfl, rfl, hB⟩ := hrel
    by_cases hlt : q < len
    · obtain ⟨x, hx⟩ : ∃ x, ps[q]? = some x := ⟨_, List.getElem?_eq_getElem (by rw [HL.out]; omega)⟩
      have hvx := HV.out x (List.mem_of_getElem? hx)
      obtain ⟨rx, fx, xx, hmx, hnx, hcx⟩ := shows_any x.k x.a x.b x.c x.d hvx
      have HCX := Lib.hid hcx
      have d0 : wr.cell? ⟨g, q, none⟩ = some (.iface (tyOf x.k) (pay x.k x.a x.b x.c x.d)) := cell_later hB (HC.out q x hx)
      have s0 := sq_range (x := vR y.k y.a y.b y.c y.d) (y := vR x.k x.a x.b x.c x.d) (by omega) (by omega) (by omega) (by omega)
      have s1 := sq_range (x := vG y.k y.a y.b y.c y.d) (y := vG x.k x.a x.b x.c x.d) (by omega) (by omega) (by omega) (by omega)
      have s2 := sq_range (x := vB y.k y.a y.b y.c y.d) (y := vB x.k x.a x.b x.c x.d) (by omega) (by omega) (by omega) (by omega)
      have s3 := sq_range (x := vA y.k y.a y.b y.c y.d) (y := vA x.k x.a x.b x.c x.d) (by omega) (by omega) (by omega) (by omega)
      have hb := bestTo_range (sums_range HY.out HV.out) q (by rw [List.length_map, HL.out]; omega)
      have hS : sumOf y x = sq (vR y.k y.a y.b y.c y.d) (vR x.k x.a x.b x.c x.d) + sq (vG y.k y.a y.b y.c y.d) (vG x.k x.a x.b x.c x.d) + sq (vB y.k y.a y.b y.c y.d) (vB x.k x.a x.b x.c x.d) + sq (vA y.k y.a y.b y.c y.d) (vA x.k x.a x.b x.c x.d) := rfl
      have HLT := Lib.hid (bestTo_lt (ss := ps.map (sumOf y)) (k := q))
      have HGE := Lib.hid (bestTo_ge (ss := ps.map (sumOf y)) (k := q))
      have HZ := Lib.hid (bestTo_zero (sums_range HY.out HV.out) (k := q + 1))
      rw [sums_at hx, hS] at HLT HGE
      clear hx hcx hvx hS
      by_cases hl : sq (vR y.k y.a y.b y.c y.d) (vR x.k x.a x.b x.c x.d) + sq (vG y.k y.a y.b y.c y.d) (vG x.k x.a x.b x.c x.d) + sq (vB y.k y.a y.b y.c y.d) (vB x.k x.a x.b x.c x.d) + sq (vA y.k y.a y.b y.c y.d) (vA x.k x.a x.b x.c x.d) < (bestTo (ps.map (sumOf y)) q).2
      · have HE := Lib.hid (HLT.out hl)
        by_cases hz : sq (vR y.k y.a y.b y.c y.d) (vR x.k x.a x.b x.c x.d) + sq (vG y.k y.a y.b y.c y.d) (vG x.k x.a x.b x.c x.d) + sq (vB y.k y.a y.b y.c y.d) (vB x.k x.a x.b x.c x.d) + sq (vA y.k y.a y.b y.c y.d) (vA x.k x.a x.b x.c x.d) = 0
        · go_wp2_with fail
          refine (HCX.out _).mono ?_
          rintro e w2 ⟨rfl, b2⟩
          go_wp2_with (go_at_call 34; refine (sqDiff _ _ _ (by omega) (by omega) (by omega) (by omega)).mono ?_; rintro e w' ⟨rfl, rfl⟩)
          go_ret
          refine ⟨?_, later b2 hB⟩
          have e1 := HZ.out (by rw [HE.out]; exact hz) (len - (q + 1)) (by rw [List.length_map, HL.out]; omega)
          rw [show q + 1 + (len - (q + 1)) = len by omega, HE.out] at e1
          rw [e1]; rfl
        · go_wp2_with fail
          refine (HCX.out _).mono ?_
          rintro e w2 ⟨rfl, b2⟩
          go_wp2_with (go_at_call 34; refine (sqDiff _ _ _ (by omega) (by omega) (by omega) (by omega)).mono ?_; rintro e w' ⟨rfl, rfl⟩)
          go_roundw
          case rel => exact ⟨q + 1, by omega, by go_num, by rw [HE.out], by rw [HE.out], later b2 hB⟩
          case measure => simp [intOf]; omega
      · have HE := Lib.hid (HGE.out hl)
        go_wp2_with fail
        refine (HCX.out _).mono ?_
        rintro e w2 ⟨rfl, b2⟩
        go_wp2_with (go_at_call 34; refine (sqDiff _ _ _ (by omega) (by omega) (by omega) (by omega)).mono ?_; rintro e w' ⟨rfl, rfl⟩)
        go_roundw
        case rel => exact ⟨q + 1, by omega, by go_num, by rw [HE.out], by rw [HE.out], later b2 hB⟩
        case measure => simp [intOf]; omega
    · have hqe : q = len := by omega
      subst hqe
      go_wp2_with fail
      go_ret
      exact ⟨rfl, hB⟩
end Go.Proofs.Ytbehpaclnpildaa
