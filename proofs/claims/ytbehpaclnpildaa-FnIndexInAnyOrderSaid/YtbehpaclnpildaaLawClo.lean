/- The closures of FnIndexClosest and FnIndexClosestOfBytes: no color is closer. -/
import Derived.Test.YtbehpaclnpildaaLawPal
import Derived.Deep.RegionHeld3
namespace Go.Proofs.Ytbehpaclnpildaa
open Go.ChangeShapes Go.WideShapes Go.ChangeAt Go.RowKit Plain
set_option linter.unusedVariables false
theorem Since.size {w0 w' : World} (h : Since w0 w') : w0.heap.size ≤ w'.heap.size := h.below.size
theorem Since.down {w0 wx : World} {o : Obj} (hw : w0.heap.size ≤ wx.heap.size) (h : Since w0 (wx.alloc o)) : Since w0 wx :=
  ⟨h.below.os, h.below.tape, h.below.output, hw, fun k hk => (Below.heap_alloc wx o k (Nat.lt_of_lt_of_le hk hw)).symm.trans (h.below.block k hk)⟩
theorem Since.undrew {w0 wx : World} (h : Since w0 wx.drew) : Since w0 wx := ⟨h.below.os, h.below.tape, h.below.output, h.below.size, h.below.block⟩
theorem distOf_range {x y : Col} (hx : x.valid) (hy : y.valid) : 0 ≤ distOf x y ∧ distOf x y ≤ 17179344900 := by
  have rx := vals_range hx
  have ry := vals_range hy
  have r0 := sqr_range (x := vR x.k x.a x.b x.c x.d) (y := vR y.k y.a y.b y.c y.d) (by omega) (by omega) (by omega) (by omega)
  have r1 := sqr_range (x := vG x.k x.a x.b x.c x.d) (y := vG y.k y.a y.b y.c y.d) (by omega) (by omega) (by omega) (by omega)
  have r2 := sqr_range (x := vB x.k x.a x.b x.c x.d) (y := vB y.k y.a y.b y.c y.d) (by omega) (by omega) (by omega) (by omega)
  have r3 := sqr_range (x := vA x.k x.a x.b x.c x.d) (y := vA y.k y.a y.b y.c y.d) (by omega) (by omega) (by omega) (by omega)
  unfold distOf dist
  rw [apart2_eq, apart2_eq, apart2_eq, apart2_eq]
  omega
/-- The values of a color lie in block g. -/
def ValsAt (w : World) (g : Nat) (y : Col) : Prop := w.cell? ⟨g, 0, none⟩ = some (.int .u32 (vR y.k y.a y.b y.c y.d)) ∧ w.cell? ⟨g, 1, none⟩ = some (.int .u32 (vG y.k y.a y.b y.c y.d)) ∧ w.cell? ⟨g, 2, none⟩ = some (.int .u32 (vB y.k y.a y.b y.c y.d)) ∧ w.cell? ⟨g, 3, none⟩ = some (.int .u32 (vA y.k y.a y.b y.c y.d))
theorem ValsAt.call {wx w' : World} {g : Nat} {y : Col} (hb : Below wx.heap.size wx w') (h : ValsAt wx g y) : ValsAt w' g y := ⟨cell_later hb h.1, cell_later hb h.2.1, cell_later hb h.2.2.1, cell_later hb h.2.2.2⟩
/-- The square of the distance of a color from another one, both given by their values. -/
theorem distCols (x y : Col) (w : World) (hx : x.valid) (hy : y.valid) :
    Calls Try.prog 14 #[.agg #[.int .u32 (vR x.k x.a x.b x.c x.d), .int .u32 (vG x.k x.a x.b x.c x.d), .int .u32 (vB x.k x.a x.b x.c x.d), .int .u32 (vA x.k x.a x.b x.c x.d)], .agg #[.int .u32 (vR y.k y.a y.b y.c y.d), .int .u32 (vG y.k y.a y.b y.c y.d), .int .u32 (vB y.k y.a y.b y.c y.d), .int .u32 (vA y.k y.a y.b y.c y.d)]] w fun e w' => e = .returned (.int .i64 (distOf x y)) ∧ Below w.heap.size w w' := by
  have rx := vals_range hx
  have ry := vals_range hy
  exact specDistance _ _ _ _ _ _ _ _ w (by omega) (by omega) (by omega) (by omega) (by omega) (by omega) (by omega) (by omega) (by omega) (by omega) (by omega) (by omega) (by omega) (by omega) (by omega) (by omega)
/-! closures -/
set_option maxHeartbeats 1000000 in
theorem closest_1 (x y : Col) (D : Int) (g0 g1 : Nat) (w : World) (hx : x.valid) (hy : y.valid) (hv : ValsAt w g0 y) (hd : w.cell? ⟨g1, 0, none⟩ = some (.int .i64 D)) (h : ¬ distOf x y + 16 ≤ D) :
    Calls Try.prog 16 #[.agg #[.int .i64 x.k, .int .u16 x.a, .int .u16 x.b, .int .u16 x.c, .int .u16 x.d], .pointer (some ⟨g0, 0, none⟩), .pointer (some ⟨g1, 0, none⟩)] w fun e w' => e = .returned (.bool false) ∧ Below w.heap.size w w' := by
  have Vx := Lib.hid (fun w => implValues x.k x.a x.b x.c x.d w hx)
  have Dx := Lib.hid (fun w => distCols x y w hx hy)
  have r := distOf_range hx hy
  have HV := Lib.hid hv
  have HD := Lib.hid hd
  clear hx hy hv hd
  go_enter Try.func16, Try.ntmps16
  go_wp2_with fail
  generalize hw0 : w.alloc (.cells #[.int .i64 x.k, .int .u16 x.a, .int .u16 x.b, .int .u16 x.c, .int .u16 x.d] 26 (0, 0)) = w0
  have c0 : ∀ w', Since w0 w' → w'.cell? ⟨w.heap.size, 0, none⟩ = some (.int .i64 x.k) := fun w' h => cell_later h.below (by rw [← hw0]; simp [go_sem])
  have c1 : ∀ w', Since w0 w' → w'.cell? ⟨w.heap.size, 1, none⟩ = some (.int .u16 x.a) := fun w' h => cell_later h.below (by rw [← hw0]; simp [go_sem])
  have c2 : ∀ w', Since w0 w' → w'.cell? ⟨w.heap.size, 2, none⟩ = some (.int .u16 x.b) := fun w' h => cell_later h.below (by rw [← hw0]; simp [go_sem])
  have c3 : ∀ w', Since w0 w' → w'.cell? ⟨w.heap.size, 3, none⟩ = some (.int .u16 x.c) := fun w' h => cell_later h.below (by rw [← hw0]; simp [go_sem])
  have c4 : ∀ w', Since w0 w' → w'.cell? ⟨w.heap.size, 4, none⟩ = some (.int .u16 x.d) := fun w' h => cell_later h.below (by rw [← hw0]; simp [go_sem])
  have v0 : ∀ w', Since w0 w' → w'.cell? ⟨g0, 0, none⟩ = some (.int .u32 (vR y.k y.a y.b y.c y.d)) := fun w' h => cell_later h.below (by rw [← hw0]; exact cellAlloc _ HV.out.1)
  have v1 : ∀ w', Since w0 w' → w'.cell? ⟨g0, 1, none⟩ = some (.int .u32 (vG y.k y.a y.b y.c y.d)) := fun w' h => cell_later h.below (by rw [← hw0]; exact cellAlloc _ HV.out.2.1)
  have v2 : ∀ w', Since w0 w' → w'.cell? ⟨g0, 2, none⟩ = some (.int .u32 (vB y.k y.a y.b y.c y.d)) := fun w' h => cell_later h.below (by rw [← hw0]; exact cellAlloc _ HV.out.2.2.1)
  have v3 : ∀ w', Since w0 w' → w'.cell? ⟨g0, 3, none⟩ = some (.int .u32 (vA y.k y.a y.b y.c y.d)) := fun w' h => cell_later h.below (by rw [← hw0]; exact cellAlloc _ HV.out.2.2.2)
  have d0 : ∀ w', Since w0 w' → w'.cell? ⟨g1, 0, none⟩ = some (.int .i64 D) := fun w' h => cell_later h.below (by rw [← hw0]; exact cellAlloc _ HD.out)
  have hB0 : Below w.heap.size w w0 := by rw [← hw0]; exact laterAlloc (Below.refl _ _) _
  clear hw0
  go_region_held3 (fun w' => Since w0 w')
    (first | with_reducible assumption | with_reducible exact (Since.refl _).drew | with_reducible exact Since.refl _ | with_reducible exact Since.call (by with_reducible assumption) (by with_reducible assumption))
    (first | (go_at_call 13; (with_reducible refine (Vx.out _).mono ?_); rintro e w' ⟨rfl, hb⟩) | (go_at_call 14; (with_reducible refine (Dx.out _).mono ?_); rintro e w' ⟨rfl, hb⟩))
  rename_i hH
  go_wp2_with fail
  go_ret
  refine ⟨?_, later hH.below hB0⟩
  refine congrArg (fun b => Ending.returned (.bool b)) (decide_eq_false ?_)
  first | omega | (rw [IntKind.wrap_i64]; omega)
set_option maxHeartbeats 1000000 in
theorem bytes_1 (x y : Col) (D : Int) (g0 g1 : Nat) (w : World) (hx : x.valid) (hy : y.valid) (hv : ValsAt w g0 y) (hd : w.cell? ⟨g1, 0, none⟩ = some (.int .i64 D)) (h : ¬ distOf x y < D) :
    Calls Try.prog 18 #[.agg #[.int .i64 x.k, .int .u16 x.a, .int .u16 x.b, .int .u16 x.c, .int .u16 x.d], .pointer (some ⟨g0, 0, none⟩), .pointer (some ⟨g1, 0, none⟩)] w fun e w' => e = .returned (.bool false) ∧ Below w.heap.size w w' := by
  have Vx := Lib.hid (fun w => implValues x.k x.a x.b x.c x.d w hx)
  have Dx := Lib.hid (fun w => distCols x y w hx hy)
  have r := distOf_range hx hy
  have HV := Lib.hid hv
  have HD := Lib.hid hd
  clear hx hy hv hd
  go_enter Try.func18, Try.ntmps18
  go_wp2_with fail
  generalize hw0 : w.alloc (.cells #[.int .i64 x.k, .int .u16 x.a, .int .u16 x.b, .int .u16 x.c, .int .u16 x.d] 26 (0, 0)) = w0
  have c0 : ∀ w', Since w0 w' → w'.cell? ⟨w.heap.size, 0, none⟩ = some (.int .i64 x.k) := fun w' h => cell_later h.below (by rw [← hw0]; simp [go_sem])
  have c1 : ∀ w', Since w0 w' → w'.cell? ⟨w.heap.size, 1, none⟩ = some (.int .u16 x.a) := fun w' h => cell_later h.below (by rw [← hw0]; simp [go_sem])
  have c2 : ∀ w', Since w0 w' → w'.cell? ⟨w.heap.size, 2, none⟩ = some (.int .u16 x.b) := fun w' h => cell_later h.below (by rw [← hw0]; simp [go_sem])
  have c3 : ∀ w', Since w0 w' → w'.cell? ⟨w.heap.size, 3, none⟩ = some (.int .u16 x.c) := fun w' h => cell_later h.below (by rw [← hw0]; simp [go_sem])
  have c4 : ∀ w', Since w0 w' → w'.cell? ⟨w.heap.size, 4, none⟩ = some (.int .u16 x.d) := fun w' h => cell_later h.below (by rw [← hw0]; simp [go_sem])
  have v0 : ∀ w', Since w0 w' → w'.cell? ⟨g0, 0, none⟩ = some (.int .u32 (vR y.k y.a y.b y.c y.d)) := fun w' h => cell_later h.below (by rw [← hw0]; exact cellAlloc _ HV.out.1)
  have v1 : ∀ w', Since w0 w' → w'.cell? ⟨g0, 1, none⟩ = some (.int .u32 (vG y.k y.a y.b y.c y.d)) := fun w' h => cell_later h.below (by rw [← hw0]; exact cellAlloc _ HV.out.2.1)
  have v2 : ∀ w', Since w0 w' → w'.cell? ⟨g0, 2, none⟩ = some (.int .u32 (vB y.k y.a y.b y.c y.d)) := fun w' h => cell_later h.below (by rw [← hw0]; exact cellAlloc _ HV.out.2.2.1)
  have v3 : ∀ w', Since w0 w' → w'.cell? ⟨g0, 3, none⟩ = some (.int .u32 (vA y.k y.a y.b y.c y.d)) := fun w' h => cell_later h.below (by rw [← hw0]; exact cellAlloc _ HV.out.2.2.2)
  have d0 : ∀ w', Since w0 w' → w'.cell? ⟨g1, 0, none⟩ = some (.int .i64 D) := fun w' h => cell_later h.below (by rw [← hw0]; exact cellAlloc _ HD.out)
  have hB0 : Below w.heap.size w w0 := by rw [← hw0]; exact laterAlloc (Below.refl _ _) _
  clear hw0
  go_region_held3 (fun w' => Since w0 w')
    (first | with_reducible assumption | with_reducible exact (Since.refl _).drew | with_reducible exact Since.refl _ | with_reducible exact Since.call (by with_reducible assumption) (by with_reducible assumption))
    (first | (go_at_call 13; (with_reducible refine (Vx.out _).mono ?_); rintro e w' ⟨rfl, hb⟩) | (go_at_call 14; (with_reducible refine (Dx.out _).mono ?_); rintro e w' ⟨rfl, hb⟩))
  rename_i hH
  go_wp2_with fail
  go_ret
  refine ⟨?_, later hH.below hB0⟩
  refine congrArg (fun b => Ending.returned (.bool b)) (decide_eq_false ?_)
  first | omega | (rw [IntKind.wrap_i64]; omega)
end Go.Proofs.Ytbehpaclnpildaa
