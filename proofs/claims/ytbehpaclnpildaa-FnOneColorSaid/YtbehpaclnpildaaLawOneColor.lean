/- A palette of one color converts everything to it: FnOneColor returns true for every two colors. No conditions. -/
import Derived.Test.YtbehpaclnpildaaLawHelp
import Derived.Test.YtbehpaclnpildaaEqArr
import Derived.Test.YtbehpaclnpildaaOpen
import Derived.IntWalk
import Derived.WalkLawsBesides
namespace Go.Proofs.Ytbehpaclnpildaa
open Go.ChangeShapes Go.WideShapes Go.ChangeAt Go.RowKit Plain
set_option linter.unusedVariables false
theorem best_one (y x : Col) : best y [x] = 0 := by
  unfold best
  show (bestTo [sumOf y x] 1).1 = 0
  show (if _ then _ else _ : Nat × Int).1 = 0
  split <;> rfl
theorem palOne {w : World} {B : Nat} {x : Col} (hf : x.fits) (h : ColAt w B 0 x) : PalAt w B 0 [x] := by
  intro i z hz
  match i, hz with
  | 0, hz => simp at hz; subst hz; exact ⟨h, hf⟩
theorem oneAll {x : Col} {P : Col → Prop} (h : P x) : ∀ z ∈ [x], P z := fun z hz => by rw [List.mem_singleton] at hz; exact hz ▸ h

set_option maxHeartbeats 2000000 in
theorem oneColor_walk (x y : Col) (hx : x.fits) (hy : y.fits) (w : World) :
    Calls Try.prog 8 #[.agg #[.int .i64 x.k, .int .u16 x.a, .int .u16 x.b, .int .u16 x.c, .int .u16 x.d], .agg #[.int .i64 y.k, .int .u16 y.a, .int .u16 y.b, .int .u16 y.c, .int .u16 y.d]] w fun e w' => e = .returned (.bool true) ∧ Below w.heap.size w w' := by
  by_cases hv : x.valid
  rotate_left
  · obtain ⟨_, ha, hb, hc, hd⟩ := hx
    have V := Lib.hid (fun w => specValid_no x.k x.a x.b x.c x.d w ha.1 ha.2 hb.1 hb.2 hc.1 hc.2 hd.1 hd.2 hv)
    clear hv
    go_enter Try.func8, Try.ntmps8
    go_wp2_with fail
    refine (V.out _).mono ?_
    rintro e w1 ⟨rfl, b1⟩
    go_wp2_with fail
    go_ret
    exact ⟨rfl, later b1 (laterAlloc (laterAlloc (Below.refl _ _) _) _)⟩
  have V := Lib.hid (fun w => specValid_yes x.k x.a x.b x.c x.d w hv)
  by_cases hv' : y.valid
  rotate_left
  · obtain ⟨_, ha, hb, hc, hd⟩ := hy
    have V' := Lib.hid (fun w => specValid_no y.k y.a y.b y.c y.d w ha.1 ha.2 hb.1 hb.2 hc.1 hc.2 hd.1 hd.2 hv')
    clear hv hv'
    go_enter Try.func8, Try.ntmps8
    go_wp2_with fail
    refine (V.out _).mono ?_
    rintro e w1 ⟨rfl, b1⟩
    have e0 : w1.cell? ⟨w.heap.size + 1, 0, none⟩ = some (.int .i64 y.k) := cell_later b1 (by simp [go_sem])
    have e1 : w1.cell? ⟨w.heap.size + 1, 1, none⟩ = some (.int .u16 y.a) := cell_later b1 (by simp [go_sem])
    have e2 : w1.cell? ⟨w.heap.size + 1, 2, none⟩ = some (.int .u16 y.b) := cell_later b1 (by simp [go_sem])
    have e3 : w1.cell? ⟨w.heap.size + 1, 3, none⟩ = some (.int .u16 y.c) := cell_later b1 (by simp [go_sem])
    have e4 : w1.cell? ⟨w.heap.size + 1, 4, none⟩ = some (.int .u16 y.d) := cell_later b1 (by simp [go_sem])
    have B1 : Below w.heap.size w w1 := later b1 (laterAlloc (laterAlloc (Below.refl _ _) _) _)
    clear b1
    go_wp2_with fail
    refine (V'.out _).mono ?_
    rintro e w2 ⟨rfl, b2⟩
    go_wp2_with fail
    go_ret
    exact ⟨rfl, later b2 B1⟩
  have V' := Lib.hid (fun w => specValid_yes y.k y.a y.b y.c y.d w hv')
  have C := Lib.hid (fun w B hp => implClosest B 0 1 1 [x] y x w hp (oneAll hv) hv' rfl (by omega) (by omega) (by rw [best_one]; rfl))
  have I := Lib.hid (fun w B hp => implIndex B 0 1 1 [x] y w hp (oneAll hv) hv' rfl (by omega) (by omega))
  rw [best_one] at I
  have HX := Lib.hid hx
  have hq := eqColor
  clear hx hy hv hv'
  go_enter Try.func8, Try.ntmps8
  go_wp2_with fail
  generalize hw0 : (w.alloc (.cells #[.int .i64 x.k, .int .u16 x.a, .int .u16 x.b, .int .u16 x.c, .int .u16 x.d] 26 (0, 0))).alloc _ = w0
  have c0 : ∀ w', Since w0 w' → w'.cell? ⟨w.heap.size, 0, none⟩ = some (.int .i64 x.k) := fun w' h => cell_later h.below (by rw [← hw0]; simp [go_sem])
  have c1 : ∀ w', Since w0 w' → w'.cell? ⟨w.heap.size, 1, none⟩ = some (.int .u16 x.a) := fun w' h => cell_later h.below (by rw [← hw0]; simp [go_sem])
  have c2 : ∀ w', Since w0 w' → w'.cell? ⟨w.heap.size, 2, none⟩ = some (.int .u16 x.b) := fun w' h => cell_later h.below (by rw [← hw0]; simp [go_sem])
  have c3 : ∀ w', Since w0 w' → w'.cell? ⟨w.heap.size, 3, none⟩ = some (.int .u16 x.c) := fun w' h => cell_later h.below (by rw [← hw0]; simp [go_sem])
  have c4 : ∀ w', Since w0 w' → w'.cell? ⟨w.heap.size, 4, none⟩ = some (.int .u16 x.d) := fun w' h => cell_later h.below (by rw [← hw0]; simp [go_sem])
  have d0 : ∀ w', Since w0 w' → w'.cell? ⟨w.heap.size + 1, 0, none⟩ = some (.int .i64 y.k) := fun w' h => cell_later h.below (by rw [← hw0]; simp [go_sem])
  have d1 : ∀ w', Since w0 w' → w'.cell? ⟨w.heap.size + 1, 1, none⟩ = some (.int .u16 y.a) := fun w' h => cell_later h.below (by rw [← hw0]; simp [go_sem])
  have d2 : ∀ w', Since w0 w' → w'.cell? ⟨w.heap.size + 1, 2, none⟩ = some (.int .u16 y.b) := fun w' h => cell_later h.below (by rw [← hw0]; simp [go_sem])
  have d3 : ∀ w', Since w0 w' → w'.cell? ⟨w.heap.size + 1, 3, none⟩ = some (.int .u16 y.c) := fun w' h => cell_later h.below (by rw [← hw0]; simp [go_sem])
  have d4 : ∀ w', Since w0 w' → w'.cell? ⟨w.heap.size + 1, 4, none⟩ = some (.int .u16 y.d) := fun w' h => cell_later h.below (by rw [← hw0]; simp [go_sem])
  have hB0 : Below w.heap.size w w0 := by rw [← hw0]; exact laterAlloc (laterAlloc (Below.refl _ _) _) _
  have HS := Lib.hid (show w.heap.size + 1 < w0.heap.size by rw [← hw0]; simp)
  clear hw0
  refine (V.out _).mono ?_
  rintro e w1 ⟨rfl, b1⟩
  have n1 : Since w0 w1 := b1
  clear b1
  go_wp2_with fail
  refine (V'.out _).mono ?_
  rintro e w2 ⟨rfl, b2⟩
  have n2 : Since w0 w2 := n1.call b2
  clear b2 n1
  have hz2 : w.heap.size + 1 < w2.heap.size := Nat.lt_of_lt_of_le HS.out n2.below.size
  go_wp2_with fail
  refine (C.out _ _ (palOne HX.out ⟨by simp [go_sem], by simp [go_sem], by simp [go_sem], by simp [go_sem], by simp [go_sem]⟩)).mono ?_
  rintro e w3 ⟨rfl, b3⟩
  have n3 : Since w0 w3 := n2.up.call b3
  clear b3
  have hz3 : w.heap.size + 1 < w3.heap.size := Nat.lt_of_lt_of_le HS.out n3.below.size
  have u0 : w.heap.size < w3.heap.size := by omega
  have u1 : ¬ w.heap.size = w3.heap.size := by omega
  have u2 : ¬ w3.heap.size = w.heap.size := by omega
  have u3 : ¬ w.heap.size + 1 = w3.heap.size := by omega
  have u4 : ¬ w3.heap.size = w.heap.size + 1 := by omega
  have p0 := c0 _ n3
  have q0 := d0 _ n3
  have p1 := c1 _ n3
  have q1 := d1 _ n3
  have p2 := c2 _ n3
  have q2 := d2 _ n3
  have p3 := c3 _ n3
  have q3 := d3 _ n3
  have p4 := c4 _ n3
  have q4 := d4 _ n3
  clear c0 c1 c2 c3 c4 d0 d1 d2 d3 d4
  go_wp2_with fail
  refine (I.out _ _ (palOne HX.out ⟨by simp [go_sem], by simp [go_sem], by simp [go_sem], by simp [go_sem], by simp [go_sem]⟩)).mono ?_
  rintro e w4 ⟨rfl, b4⟩
  have n4 : Since w0 w4 := n3.up.up.call b4
  go_wp2_with fail
  go_ret
  exact ⟨rfl, later n4.below hB0⟩

theorem FnOneColor_walk (k a b c d : Int) (k' a' b' c' d' : Int) (hk0 : -9223372036854775808 ≤ k) (hk1 : k ≤ 9223372036854775807) (ha0 : 0 ≤ a) (ha1 : a ≤ 65535) (hb0 : 0 ≤ b) (hb1 : b ≤ 65535) (hc0 : 0 ≤ c) (hc1 : c ≤ 65535) (hd0 : 0 ≤ d) (hd1 : d ≤ 65535) (hk0' : -9223372036854775808 ≤ k') (hk1' : k' ≤ 9223372036854775807) (ha0' : 0 ≤ a') (ha1' : a' ≤ 65535) (hb0' : 0 ≤ b') (hb1' : b' ≤ 65535) (hc0' : 0 ≤ c') (hc1' : c' ≤ 65535) (hd0' : 0 ≤ d') (hd1' : d' ≤ 65535) (w : World) :
    Calls Try.prog 8 #[.agg #[.int .i64 k, .int .u16 a, .int .u16 b, .int .u16 c, .int .u16 d], .agg #[.int .i64 k', .int .u16 a', .int .u16 b', .int .u16 c', .int .u16 d']] w fun e w' => e = .returned (.bool true) ∧ Below w.heap.size w w' :=
  oneColor_walk ⟨k, a, b, c, d⟩ ⟨k', a', b', c', d'⟩ ⟨⟨hk0, hk1⟩, ⟨ha0, ha1⟩, ⟨hb0, hb1⟩, ⟨hc0, hc1⟩, ⟨hd0, hd1⟩⟩ ⟨⟨hk0', hk1'⟩, ⟨ha0', ha1'⟩, ⟨hb0', hb1'⟩, ⟨hc0', hc1'⟩, ⟨hd0', hd1'⟩⟩ w
/-! ### The row's step, for FnOneColor. -/
namespace FnOneColorFrame
open Go.ChangeShapes Go.WideShapes Go.ChangeAt Go.RowKit
theorem own : ownKnob Try.prog.godebug = none := by kernel_rfl
theorem laidOut : laidOutB Try.prog = true := by kernel_rfl
set_option maxRecDepth 100000 in
theorem lifted (os : Os) (started : os.Started) (H : Type) (enc : TypeId × Value → H) :
    ReturnsInHanded {} Try.checked os 8 .any (Rows.fnOneColorSpec.pre6 enc Try.prog Try.f8 Rows.fnOneColorRow.domain false) (Rows.fnOneColorSpec.post enc Try.prog Try.f8 false true false false) := by
  refine returnsInHanded_of_change (C := Try.checked) own started (by kernel_rfl) Try.func8
    (ChangeSpec.witness6 (enc := enc) (C := Try.checked) false ⟨#[], #[.agg #[.int .i64 0, .int .u16 0, .int .u16 0, .int .u16 0, .int .u16 0], .agg #[.int .i64 0, .int .u16 0, .int .u16 0, .int .u16 0, .int .u16 0]], []⟩ 8 (by kernel_rfl) (by kernel_rfl) (by kernel_rfl) (by kernel_rfl)) ?_
  intro W base args ds gs before hval0 hW hcnd _
  have hval : ∀ (j : Nat) t v, Try.f8.params[j]? = some t → args[j]? = some v → Value.okWide Try.prog W .any base t v := hval0
  have hW' := hW
  obtain ⟨p, q, hA0, hV, rfl, hfz, hnd⟩ := hW
  have hA : DataW.TrodAll enc Try.prog W 0 (fun _ => true) true Try.f8.params.toList args.toList ds p := hA0
  rw [Try.params8] at hA hval
  obtain ⟨v0, vs0, d0, ds0, p0, q0, hargs, rfl, rfl, h0, r0⟩ := trodAll_cons hA
  obtain ⟨v1, vs1, d1, ds1, p1, q1, rfl, rfl, rfl, h1, r1⟩ := trodAll_cons r0
  obtain ⟨rfl, rfl, rfl⟩ := trodAll_nil r1
  obtain rfl : args = #[v0, v1] := by cases args; simp_all
  obtain ⟨rfl, rfl⟩ := trodVars_none hV
  have k0 := h0
  have lt0 : ∀ x ∈ p0, x.block < W.heap.size := by obtain ⟨m, hm⟩ := k0; exact DataW.trod_lt m _ _ _ hm
  obtain ⟨k_0, a_0, b_0, c_0, d_0, rfl, hk0, ha0, hb0, hc0, hd0⟩ := open_color (hval 0 26 v0 rfl rfl) h0
  have k1 := h1
  have lt1 : ∀ x ∈ p1, x.block < W.heap.size := by obtain ⟨m, hm⟩ := k1; exact DataW.trod_lt m _ _ _ hm
  obtain ⟨k_1, a_1, b_1, c_1, d_1, rfl, hk1, ha1, hb1, hc1, hd1⟩ := open_color (hval 1 26 v1 rfl rfl) h1
  clear hA0 hval0
  refine (FnOneColor_walk k_0 a_0 b_0 c_0 d_0 k_1 a_1 b_1 c_1 d_1 hk0.1 hk0.2 ha0.1 ha0.2 hb0.1 hb0.2 hc0.1 hc0.2 hd0.1 hd0.2 hk1.1 hk1.2 ha1.1 ha1.2 hb1.1 hb1.2 hc1.1 hc1.2 hd1.1 hd1.2 W).mono fun e W' ⟨he, bel⟩ => ?_
  subst he
  exact ⟨_, rfl, _, _, _, [], _, [], hW', trodAll_mk1 (shut_bool Try.underlying4 _), (trodAll_cons_mk (Below.trod laidOut (by kernel_rfl) (of_decide_eq_true (by kernel_rfl)) k0 bel lt0) (trodAll_cons_mk (Below.trod laidOut (by kernel_rfl) (of_decide_eq_true (by kernel_rfl)) k1 bel lt1) trodAll_mk0)), rfl, bel.frame _, fun h => by cases h⟩
theorem over : Rows.fnOneColorRow.holds Try.pinned (OpenSpec.ofChange Rows.fnOneColorSpec) :=
  OpenClaim.holds_of_wide 8 Try.f8 rfl rfl rfl rfl rfl rfl rfl ⟨rfl, rfl, rfl, rfl, rfl⟩ rfl rfl rfl rfl rfl (by kernel_rfl) Try.func8 (by kernel_rfl)
    (of_decide_eq_true (by kernel_rfl)) (by unfold Func.isWrapper; first | (rw [if_pos (by decide +kernel)]; kernel_rfl) | (rw [if_neg (by decide +kernel)]; exact ⟨rfl, rfl⟩))
    (fun os started H enc _ => lifted os started H enc)
end FnOneColorFrame
/-- THE STATEMENT. -/
theorem FnOneColor_holds : Rows.FnOneColorSaid := FnOneColorFrame.over
#print axioms FnOneColor_holds
end Go.Proofs.Ytbehpaclnpildaa
