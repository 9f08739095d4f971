/- What a palette of colors whose components have 8 bits has converted it converts to a color of the same values: FnClosestTwice returns true for every palette and every color. No conditions. -/
import Derived.Test.YtbehpaclnpildaaLawPal
import Derived.Deep.DeepCutAuto
import Derived.Deep.RegionHeld3
import Derived.Deep.QuietTactic
import Derived.BigQuiet
namespace Go.Proofs.Ytbehpaclnpildaa
open Go.ChangeShapes Go.WideShapes Go.ChangeAt Go.RowKit Plain
set_option linter.unusedVariables false
theorem FnClosestTwice_empty (a0 : Option Addr) (cap : Nat) (y : Col) (w : World) : Calls Try.prog 10 #[.slice a0 0 cap, .agg #[.int .i64 y.k, .int .u16 y.a, .int .u16 y.b, .int .u16 y.c, .int .u16 y.d]] w fun e w' => e = .returned (.bool true) ∧ Below w.heap.size w w' := by
  have E := Lib.hid (fun w => small_empty a0 cap y w)
  go_enter Try.func10, Try.ntmps10
  go_wp2_with fail
  refine (E.out _).mono ?_
  rintro e w1 ⟨rfl, b1⟩
  go_wp2_with fail
  go_ret
  exact ⟨rfl, later b1 (laterAlloc (Below.refl _ _) _)⟩
theorem FnClosestTwice_long (B off len cap : Nat) (y : Col) (w : World) (hl : 2147483647 < len) (hm : len ≤ 9223372036854775807) : Calls Try.prog 10 #[.slice (some ⟨B, off, none⟩) len cap, .agg #[.int .i64 y.k, .int .u16 y.a, .int .u16 y.b, .int .u16 y.c, .int .u16 y.d]] w fun e w' => e = .returned (.bool true) ∧ Below w.heap.size w w' := by
  go_enter Try.func10, Try.ntmps10
  go_wp2_with fail
  go_ret
  exact ⟨rfl, laterAlloc (Below.refl _ _) _⟩
theorem FnClosestTwice_not (B off len cap : Nat) (ps : List Col) (y : Col) (w : World) (hp : PalAt w B off ps) (hlen : ps.length = len) (hpos : 0 < len) (hm : len ≤ 2147483647) (hyf : y.fits) (hn : ¬ (y.small ∧ ∀ x ∈ ps, x.small)) : Calls Try.prog 10 #[.slice (some ⟨B, off, none⟩) len cap, .agg #[.int .i64 y.k, .int .u16 y.a, .int .u16 y.b, .int .u16 y.c, .int .u16 y.d]] w fun e w' => e = .returned (.bool true) ∧ Below w.heap.size w w' := by
  have N := Lib.hid (fun w hp => small_no B off len cap ps y w hp hlen hpos hm hyf hn)
  have HP := Lib.hid hp
  clear hp hn hyf hlen
  go_enter Try.func10, Try.ntmps10
  go_wp2_with fail
  refine (N.out _ HP.out.alloc).mono ?_
  rintro e w1 ⟨rfl, b1⟩
  go_wp2_with fail
  go_ret
  exact ⟨rfl, later b1 (laterAlloc (Below.refl _ _) _)⟩
set_option maxHeartbeats 2000000 in
theorem FnClosestTwice_main (B off len cap : Nat) (ps : List Col) (y : Col) (w : World) (hp : PalAt w B off ps) (hlen : ps.length = len) (hpos : 0 < len) (hm : len ≤ 2147483647) (hy : y.small) (hv : ∀ x ∈ ps, x.small) : Calls Try.prog 10 #[.slice (some ⟨B, off, none⟩) len cap, .agg #[.int .i64 y.k, .int .u16 y.a, .int .u16 y.b, .int .u16 y.c, .int .u16 y.d]] w fun e w' => e = .returned (.bool true) ∧ Below w.heap.size w w' := by
  have hvv : ∀ x ∈ ps, x.valid := fun x hx => (hv x hx).valid
  obtain ⟨z, hz, _⟩ := best_least hy.valid hvv (by omega)
  have hzm : z ∈ ps := List.mem_of_getElem? hz
  obtain ⟨z2, hz2, _⟩ := best_least (hvv z hzm) hvv (by omega)
  obtain ⟨m0, m1, m2, m3⟩ := best_member hv hzm hz2
  have Y := Lib.hid (fun w hp => small_yes B off len cap ps y w hp hlen hpos hm hy hv)
  have C := Lib.hid (fun w hp => implClosest B off len cap ps y z w hp hvv hy.valid hlen hpos (by omega) hz)
  have C2 := Lib.hid (fun w hp => implClosest B off len cap ps z z2 w hp hvv (hvv z hzm) hlen hpos (by omega) hz2)
  have V := Lib.hid (fun w => implValues z.k z.a z.b z.c z.d w (hvv z hzm))
  have V2 := Lib.hid (fun w => implValues z2.k z2.a z2.b z2.c z2.d w (hvv z2 (List.mem_of_getElem? hz2)))
  have M := Lib.hid (And.intro m0 (And.intro m1 (And.intro m2 m3)))
  have HP := Lib.hid hp
  have hq := eqArr4
  clear hp hy hv hlen hz hz2 hvv hzm m0 m1 m2 m3
  go_enter Try.func10, Try.ntmps10
  go_wp2_with fail
  generalize hw0 : w.alloc (.cells #[.int .i64 y.k, .int .u16 y.a, .int .u16 y.b, .int .u16 y.c, .int .u16 y.d] 26 (0, 0)) = w0
  have c0 : ∀ w', Since w0 w' → w'.cell? ⟨w.heap.size, 0, none⟩ = some (.int .i64 y.k) := fun w' h => cell_later h.below (by rw [← hw0]; simp [go_sem])
  have c1 : ∀ w', Since w0 w' → w'.cell? ⟨w.heap.size, 1, none⟩ = some (.int .u16 y.a) := fun w' h => cell_later h.below (by rw [← hw0]; simp [go_sem])
  have c2 : ∀ w', Since w0 w' → w'.cell? ⟨w.heap.size, 2, none⟩ = some (.int .u16 y.b) := fun w' h => cell_later h.below (by rw [← hw0]; simp [go_sem])
  have c3 : ∀ w', Since w0 w' → w'.cell? ⟨w.heap.size, 3, none⟩ = some (.int .u16 y.c) := fun w' h => cell_later h.below (by rw [← hw0]; simp [go_sem])
  have c4 : ∀ w', Since w0 w' → w'.cell? ⟨w.heap.size, 4, none⟩ = some (.int .u16 y.d) := fun w' h => cell_later h.below (by rw [← hw0]; simp [go_sem])
  have hB0 : Below w.heap.size w w0 := by rw [← hw0]; exact laterAlloc (Below.refl _ _) _
  have HS := Lib.hid (show w.heap.size < w0.heap.size by rw [← hw0]; simp)
  clear hw0
  refine (Y.out _ (HP.out.call hB0)).mono ?_
  rintro e w1 ⟨rfl, b1⟩
  have n1 : Since w0 w1 := b1
  clear b1
  go_wp2_with fail
  refine (C.out _ (HP.out.call (later n1.below hB0))).mono ?_
  rintro e w2 ⟨rfl, b2⟩
  have n2 : Since w0 w2 := n1.call b2
  clear b2 c0 c1 c2 c3 c4
  go_wp2_with fail
  refine (C2.out _ (HP.out.call (later n2.below hB0)).alloc).mono ?_
  rintro e w3 ⟨rfl, b3⟩
  have n3 : Since w0 w3 := n2.up.call b3
  have p0 : w3.cell? ⟨w2.heap.size, 0, none⟩ = some (.int .i64 z.k) := cell_later b3 (by simp [go_sem])
  have p1 : w3.cell? ⟨w2.heap.size, 1, none⟩ = some (.int .u16 z.a) := cell_later b3 (by simp [go_sem])
  have p2 : w3.cell? ⟨w2.heap.size, 2, none⟩ = some (.int .u16 z.b) := cell_later b3 (by simp [go_sem])
  have p3 : w3.cell? ⟨w2.heap.size, 3, none⟩ = some (.int .u16 z.c) := cell_later b3 (by simp [go_sem])
  have p4 : w3.cell? ⟨w2.heap.size, 4, none⟩ = some (.int .u16 z.d) := cell_later b3 (by simp [go_sem])
  clear b3
  go_wp2_with fail
  generalize hw4 : w3.alloc (.cells #[.int .i64 z2.k, .int .u16 z2.a, .int .u16 z2.b, .int .u16 z2.c, .int .u16 z2.d] 26 (0, 0)) = w4
  have d0 : ∀ w', Since w4 w' → w'.cell? ⟨w2.heap.size, 0, none⟩ = some (.int .i64 z.k) := fun w' h => cell_later h.below (by rw [← hw4]; exact cellAlloc _ p0)
  have d1 : ∀ w', Since w4 w' → w'.cell? ⟨w2.heap.size, 1, none⟩ = some (.int .u16 z.a) := fun w' h => cell_later h.below (by rw [← hw4]; exact cellAlloc _ p1)
  have d2 : ∀ w', Since w4 w' → w'.cell? ⟨w2.heap.size, 2, none⟩ = some (.int .u16 z.b) := fun w' h => cell_later h.below (by rw [← hw4]; exact cellAlloc _ p2)
  have d3 : ∀ w', Since w4 w' → w'.cell? ⟨w2.heap.size, 3, none⟩ = some (.int .u16 z.c) := fun w' h => cell_later h.below (by rw [← hw4]; exact cellAlloc _ p3)
  have d4 : ∀ w', Since w4 w' → w'.cell? ⟨w2.heap.size, 4, none⟩ = some (.int .u16 z.d) := fun w' h => cell_later h.below (by rw [← hw4]; exact cellAlloc _ p4)
  have e0 : ∀ w', Since w4 w' → w'.cell? ⟨w3.heap.size, 0, none⟩ = some (.int .i64 z2.k) := fun w' h => cell_later h.below (by rw [← hw4]; simp [go_sem])
  have e1 : ∀ w', Since w4 w' → w'.cell? ⟨w3.heap.size, 1, none⟩ = some (.int .u16 z2.a) := fun w' h => cell_later h.below (by rw [← hw4]; simp [go_sem])
  have e2 : ∀ w', Since w4 w' → w'.cell? ⟨w3.heap.size, 2, none⟩ = some (.int .u16 z2.b) := fun w' h => cell_later h.below (by rw [← hw4]; simp [go_sem])
  have e3 : ∀ w', Since w4 w' → w'.cell? ⟨w3.heap.size, 3, none⟩ = some (.int .u16 z2.c) := fun w' h => cell_later h.below (by rw [← hw4]; simp [go_sem])
  have e4 : ∀ w', Since w4 w' → w'.cell? ⟨w3.heap.size, 4, none⟩ = some (.int .u16 z2.d) := fun w' h => cell_later h.below (by rw [← hw4]; simp [go_sem])
  have n4 : Since w0 w4 := by rw [← hw4]; exact n3.up
  clear hw4 p0 p1 p2 p3 p4
  go_region_held3 (fun w' => Since w4 w')
    (first | with_reducible assumption | with_reducible exact (Since.refl _).drew | with_reducible exact Since.refl _ | with_reducible exact Since.call (by with_reducible assumption) (by with_reducible assumption))
    (first | (go_at_call 13; (with_reducible refine (V.out _).mono ?_); rintro e w' ⟨rfl, hb⟩) | (go_at_call 13; (with_reducible refine (V2.out _).mono ?_); rintro e w' ⟨rfl, hb⟩))
  rename_i hH
  obtain ⟨m0, m1, m2, m3⟩ := M.out
  go_wp2
  go_ret
  refine ⟨ret_bool ?_, later hH.below (later n4.below hB0)⟩
  simp [m0, m1, m2, m3]
theorem FnClosestTwice_walk (w : World) (v : Value) (k a b c d : Int) (hp : IsPal w v) (hk0 : -9223372036854775808 ≤ k) (hk1 : k ≤ 9223372036854775807) (ha0 : 0 ≤ a) (ha1 : a ≤ 65535) (hb0 : 0 ≤ b) (hb1 : b ≤ 65535) (hc0 : 0 ≤ c) (hc1 : c ≤ 65535) (hd0 : 0 ≤ d) (hd1 : d ≤ 65535) : Calls Try.prog 10 #[v, .agg #[.int .i64 k, .int .u16 a, .int .u16 b, .int .u16 c, .int .u16 d]] w fun e w' => e = .returned (.bool true) ∧ Below w.heap.size w w' := by
  have hyf : (⟨k, a, b, c, d⟩ : Col).fits := ⟨⟨hk0, hk1⟩, ⟨ha0, ha1⟩, ⟨hb0, hb1⟩, ⟨hc0, hc1⟩, ⟨hd0, hd1⟩⟩
  rcases hp with ⟨a0, cap, rfl⟩ | ⟨B, off, len, cap, ps, rfl, hlen, hpos, hL, hp⟩
  · exact FnClosestTwice_empty a0 cap ⟨k, a, b, c, d⟩ w
  by_cases hm : len ≤ 2147483647
  · by_cases hn : (⟨k, a, b, c, d⟩ : Col).small ∧ ∀ x ∈ ps, x.small
    · exact FnClosestTwice_main B off len cap ps ⟨k, a, b, c, d⟩ w hp hlen hpos hm hn.1 hn.2
    · exact FnClosestTwice_not B off len cap ps ⟨k, a, b, c, d⟩ w hp hlen hpos hm hyf hn
  · exact FnClosestTwice_long B off len cap ⟨k, a, b, c, d⟩ w (by omega) hL
/-! ### The row's step, for FnClosestTwice. -/
namespace FnClosestTwiceFrame
open Go.ChangeShapes Go.WideShapes Go.ChangeAt Go.RowKit
theorem own : ownKnob Try.prog.godebug = none := by kernel_rfl
theorem laidOut : laidOutB Try.prog = true := by kernel_rfl
set_option maxRecDepth 100000 in
theorem lifted (os : Os) (started : os.Started) (H : Type) (enc : TypeId × Value → H) :
    ReturnsInHanded {} Try.checked os 10 .any (Rows.fnClosestTwiceSpec.pre6 enc Try.prog Try.f10 Rows.fnClosestTwiceRow.domain false) (Rows.fnClosestTwiceSpec.post enc Try.prog Try.f10 false true false false) := by
  refine returnsInHanded_of_change (C := Try.checked) own started (by kernel_rfl) Try.func10
    (ChangeSpec.witness6 (enc := enc) (C := Try.checked) false ⟨#[], #[.slice none 0 0, .agg #[.int .i64 0, .int .u16 0, .int .u16 0, .int .u16 0, .int .u16 0]], []⟩ 8 (by kernel_rfl) (by kernel_rfl) (by kernel_rfl) (by kernel_rfl)) ?_
  intro W base args ds gs before hval0 hW hcnd _
  have hval : ∀ (j : Nat) t v, Try.f10.params[j]? = some t → args[j]? = some v → Value.okWide Try.prog W .any base t v := hval0
  have hW' := hW
  obtain ⟨p, q, hA0, hV, rfl, hfz, hnd⟩ := hW
  have hA : DataW.TrodAll enc Try.prog W 0 (fun _ => true) true Try.f10.params.toList args.toList ds p := hA0
  rw [Try.params10] at hA hval
  obtain ⟨v0, vs0, d0, ds0, p0, q0, hargs, rfl, rfl, h0, r0⟩ := trodAll_cons hA
  obtain ⟨v1, vs1, d1, ds1, p1, q1, rfl, rfl, rfl, h1, r1⟩ := trodAll_cons r0
  obtain ⟨rfl, rfl, rfl⟩ := trodAll_nil r1
  obtain rfl : args = #[v0, v1] := by cases args; simp_all
  obtain ⟨rfl, rfl⟩ := trodVars_none hV
  have k0 := h0
  have lt0 : ∀ x ∈ p0, x.block < W.heap.size := by obtain ⟨m, hm⟩ := k0; exact DataW.trod_lt m _ _ _ hm
  have pal0 := open_palV (hval 0 22 v0 rfl rfl) h0
  have k1 := h1
  have lt1 : ∀ x ∈ p1, x.block < W.heap.size := by obtain ⟨m, hm⟩ := k1; exact DataW.trod_lt m _ _ _ hm
  obtain ⟨k_1, a_1, b_1, c_1, d_1, rfl, hk1, ha1, hb1, hc1, hd1⟩ := open_color (hval 1 26 v1 rfl rfl) h1
  clear hA0 hval0
  refine (FnClosestTwice_walk W v0 k_1 a_1 b_1 c_1 d_1 pal0 hk1.1 hk1.2 ha1.1 ha1.2 hb1.1 hb1.2 hc1.1 hc1.2 hd1.1 hd1.2).mono fun e W' ⟨he, bel⟩ => ?_
  subst he
  exact ⟨_, rfl, _, _, _, [], _, [], hW', trodAll_mk1 (shut_bool Try.underlying4 _), (trodAll_cons_mk (Below.trod laidOut (by kernel_rfl) (of_decide_eq_true (by kernel_rfl)) k0 bel lt0) (trodAll_cons_mk (Below.trod laidOut (by kernel_rfl) (of_decide_eq_true (by kernel_rfl)) k1 bel lt1) trodAll_mk0)), rfl, bel.frame _, fun h => by cases h⟩
theorem over : Rows.fnClosestTwiceRow.holds Try.pinned (OpenSpec.ofChange Rows.fnClosestTwiceSpec) :=
  OpenClaim.holds_of_wide 10 Try.f10 rfl rfl rfl rfl rfl rfl rfl ⟨rfl, rfl, rfl, rfl, rfl⟩ rfl rfl rfl rfl rfl (by kernel_rfl) Try.func10 (by kernel_rfl)
    (of_decide_eq_true (by kernel_rfl)) (by unfold Func.isWrapper; first | (rw [if_pos (by decide +kernel)]; kernel_rfl) | (rw [if_neg (by decide +kernel)]; exact ⟨rfl, rfl⟩))
    (fun os started H enc _ => lifted os started H enc)
end FnClosestTwiceFrame
/-- THE STATEMENT. -/
theorem FnClosestTwice_holds : Rows.FnClosestTwiceSaid := FnClosestTwiceFrame.over
#print axioms FnClosestTwice_holds
end Go.Proofs.Ytbehpaclnpildaa
