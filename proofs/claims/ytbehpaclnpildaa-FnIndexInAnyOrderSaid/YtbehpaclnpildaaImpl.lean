/- impl.Index tells the index of the first color with the least sum. -/
import Derived.Test.YtbehpaclnpildaaPlainPal
import Derived.Test.YtbehpaclnpildaaBoxP
import Derived.Test.YtbehpaclnpildaaData
import Derived.Deep.RegionHeld3
import Derived.Laws.OwnMore
namespace Go.Proofs.Ytbehpaclnpildaa
open Go.ChangeShapes Go.WideShapes Go.ChangeAt Go.RowKit Plain
set_option linter.unusedVariables false

/-- World w' has grown out of world w0, as one word that the walk does not open. -/
def Since (w0 w' : World) : Prop := Below w0.heap.size w0 w'
theorem Since.refl (w0 : World) : Since w0 w0 := Below.refl _ _
theorem Since.drew {w0 wx : World} (h : Since w0 wx) : Since w0 wx.drew := Below.drew h
theorem Since.below {w0 w' : World} (h : Since w0 w') : Below w0.heap.size w0 w' := h
theorem Since.call {w0 wx w' : World} (hb : Below wx.heap.size wx w') (h : Since w0 wx) : Since w0 w' := later hb h
theorem Since.up {w0 wx : World} {o : Obj} (h : Since w0 wx) : Since w0 (wx.alloc o) := laterAlloc h o
theorem Since.set {w0 wx : World} {p : Addr} {v : Value} (hp : w0.heap.size ≤ p.block) (h : Since w0 wx) : Since w0 (wx.setCell p v) := Below.setCell h hp _

/-- In world w the interface values of the colors lie in block g. -/
def PalC (w : World) (g : Nat) (ps : List Col) : Prop := ∀ (i : Nat) (x : Col), ps[i]? = some x → w.cell? ⟨g, i, none⟩ = some (iv x)
theorem PalC.call {wx w' : World} {g : Nat} {ps : List Col} (hb : Below wx.heap.size wx w') (h : PalC wx g ps) : PalC w' g ps := fun i x hx => cell_later hb (h i x hx)
theorem PalC.drew {wx : World} {g : Nat} {ps : List Col} (h : PalC wx g ps) : PalC wx.drew g ps := h
theorem PalAt.call {wx w' : World} {B off : Nat} {ps : List Col} (hb : Below wx.heap.size wx w') (h : PalAt wx B off ps) : PalAt w' B off ps := fun i x hx =>
  ⟨⟨cell_later hb (h i x hx).1.1, cell_later hb (h i x hx).1.2.1, cell_later hb (h i x hx).1.2.2.1, cell_later hb (h i x hx).1.2.2.2.1, cell_later hb (h i x hx).1.2.2.2.2⟩, (h i x hx).2⟩
theorem PalAt.alloc {wx : World} {B off : Nat} {ps : List Col} {o : Obj} (h : PalAt wx B off ps) : PalAt (wx.alloc o) B off ps := h.call ((Below.refl _ _).alloc (Nat.le_refl _) _)

theorem implPaletteC (B off len cap : Nat) (ps : List Col) (w : World) (hp : PalAt w B off ps) (hv : ∀ x ∈ ps, x.valid) (hlen : ps.length = len) (hpos : 0 < len) (hm : len ≤ 2147483648) :
    Calls Try.prog 25 #[.slice (some ⟨B, off, none⟩) len cap] w fun e w' => ∃ g cp, e = .returned (.slice (some ⟨g, 0, none⟩) len cp) ∧ PalC w' g ps ∧ Below w.heap.size w w' := by
  refine (implPalette B off len cap ps w hp (fun x hx => (hv x hx).1) hlen hm).mono ?_
  rintro e w' ⟨v, rfl, ⟨hl, h⟩, hb⟩
  rcases h with ⟨_, h0⟩ | ⟨g, cp, cur, rfl, hg⟩
  · omega
  · refine ⟨g, cp, rfl, fun i x hx => ?_, hb⟩
    have hown : w'.ownsRow w.heap.size 47 1 (.slice (some ⟨g, 0, none⟩) len cp) len (ps.map iv) := ⟨hl, .inr ⟨g, cp, cur, rfl, hg⟩⟩
    have hi : i < ps.length := (List.getElem?_eq_some_iff.1 hx).1
    rw [hown.cellAt i (by omega), List.getElem?_map, hx]
    rfl

theorem paletteIndexC (g len cap : Nat) (ps : List Col) (y : Col) (w : World) (hc : PalC w g ps) (hv : ∀ x ∈ ps, x.valid) (hy : y.valid) (hlen : ps.length = len) (hm : len ≤ 2147483648) :
    Calls Try.prog 26 #[.slice (some ⟨g, 0, none⟩) len cap, .iface (tyOf y.k) (pay y.k y.a y.b y.c y.d)] w fun e w' => e = .returned (.int .i64 (best y ps)) ∧ Below w.heap.size w w' := by
  have h := paletteIndex g len cap ps y w hc hv hy hlen hm
  unfold best
  rw [hlen]
  exact h

set_option maxHeartbeats 2000000 in
theorem implIndex (B off len cap : Nat) (ps : List Col) (y : Col) (w : World) (hp : PalAt w B off ps) (hv : ∀ x ∈ ps, x.valid) (hy : y.valid) (hlen : ps.length = len) (hpos : 0 < len) (hm : len ≤ 2147483648) :
    Calls Try.prog 12 #[.slice (some ⟨B, off, none⟩) len cap, .agg #[.int .i64 y.k, .int .u16 y.a, .int .u16 y.b, .int .u16 y.c, .int .u16 y.d]] w fun e w' => e = .returned (.int .i64 (best y ps)) ∧ Below w.heap.size w w' := by
  have HP := Lib.hid hp
  have HV := Lib.hid hv
  have HL := Lib.hid hlen
  have HY := Lib.hid hy
  clear hp hv hlen hy
  have x0 : ∀ w', Box w w.heap.size y.k y.a y.b y.c y.d w' → w'.cell? ⟨w.heap.size, 0, none⟩ = some (.int .i64 y.k) := fun _ h => h.c0
  have x1 : ∀ w', Box w w.heap.size y.k y.a y.b y.c y.d w' → w'.cell? ⟨w.heap.size, 1, none⟩ = some (.int .u16 y.a) := fun _ h => h.c1
  have x2 : ∀ w', Box w w.heap.size y.k y.a y.b y.c y.d w' → w'.cell? ⟨w.heap.size, 2, none⟩ = some (.int .u16 y.b) := fun _ h => h.c2
  have x3 : ∀ w', Box w w.heap.size y.k y.a y.b y.c y.d w' → w'.cell? ⟨w.heap.size, 3, none⟩ = some (.int .u16 y.c) := fun _ h => h.c3
  have x4 : ∀ w', Box w w.heap.size y.k y.a y.b y.c y.d w' → w'.cell? ⟨w.heap.size, 4, none⟩ = some (.int .u16 y.d) := fun _ h => h.c4
  go_enter Try.func12, Try.ntmps12
  go_wp2_with fail
  have X0 : Box w w.heap.size y.k y.a y.b y.c y.d (w.alloc (.cells #[.int .i64 y.k, .int .u16 y.a, .int .u16 y.b, .int .u16 y.c, .int .u16 y.d] 26 (0, 0))) := ⟨laterAlloc (Below.refl _ _) _, by simp [go_sem], by simp [go_sem], by simp [go_sem], by simp [go_sem], by simp [go_sem]⟩
  go_region_held3 (fun w' => Box w w.heap.size y.k y.a y.b y.c y.d w')
    (first | with_reducible assumption | with_reducible exact X0.drew | with_reducible exact X0 | with_reducible exact Box.call (by assumption) (by assumption))
    (first | (go_at_call 25; refine (implPaletteC B off len cap ps _ (HP.out.call (Box.below (by assumption))) HV.out HL.out hpos hm).mono ?_; rintro e w' ⟨g, cp, rfl, hpal, hb⟩) | (go_at_call 27; refine (colorOf_any y.k y.a y.b y.c y.d _ HY.out.1).mono ?_; rintro e w' ⟨rfl, hb⟩) | (go_at_call 26; refine (paletteIndexC _ len _ ps y _ (by first | with_reducible assumption | with_reducible exact PalC.call (by with_reducible assumption) (by with_reducible assumption)) HV.out HY.out HL.out hm).mono ?_; rintro e w' ⟨rfl, hb⟩))
  all_goals
    go_wp2_with fail
    go_ret
    rename_i hH
    exact ⟨rfl, Box.below hH⟩

set_option maxHeartbeats 1000000 in
theorem paletteConvert (g len cap : Nat) (ps : List Col) (y z : Col) (w : World) (hc : PalC w g ps) (hv : ∀ x ∈ ps, x.valid) (hy : y.valid) (hlen : ps.length = len) (hpos : 0 < len) (hm : len ≤ 2147483648) (hz : ps[best y ps]? = some z) :
    Calls Try.prog 32 #[.slice (some ⟨g, 0, none⟩) len cap, .iface (tyOf y.k) (pay y.k y.a y.b y.c y.d)] w fun e w' => e = .returned (.iface (tyOf z.k) (pay z.k z.a z.b z.c z.d)) ∧ Below w.heap.size w w' := by
  have HI := Lib.hid (paletteIndexC g len cap ps y w hc hv hy hlen hm)
  have hb : best y ps < len := by rw [← hlen]; exact best_lt hy hv (by omega)
  have HZ := Lib.hid (hc _ _ hz)
  clear hc hv hy hz hlen
  go_enter Try.func32, Try.ntmps32
  go_wp2_with fail
  refine HI.out.mono ?_
  rintro e w1 ⟨rfl, b1⟩
  have d0 : w1.cell? ⟨g, best y ps, none⟩ = some (.iface (tyOf z.k) (pay z.k z.a z.b z.c z.d)) := cell_later b1 HZ.out
  go_wp2_with fail
  go_ret
  exact ⟨rfl, b1⟩

set_option maxHeartbeats 2000000 in
theorem implClosest (B off len cap : Nat) (ps : List Col) (y z : Col) (w : World) (hp : PalAt w B off ps) (hv : ∀ x ∈ ps, x.valid) (hy : y.valid) (hlen : ps.length = len) (hpos : 0 < len) (hm : len ≤ 2147483648) (hz : ps[best y ps]? = some z) :
    Calls Try.prog 23 #[.slice (some ⟨B, off, none⟩) len cap, .agg #[.int .i64 y.k, .int .u16 y.a, .int .u16 y.b, .int .u16 y.c, .int .u16 y.d]] w fun e w' => e = .returned (.tuple #[.agg #[.int .i64 z.k, .int .u16 z.a, .int .u16 z.b, .int .u16 z.c, .int .u16 z.d], .bool true]) ∧ Below w.heap.size w w' := by
  have HP := Lib.hid hp
  have HV := Lib.hid hv
  have HL := Lib.hid hlen
  have HY := Lib.hid hy
  have HZ := Lib.hid hz
  have HD := Lib.hid (fun w => dataOf_any z.k z.a z.b z.c z.d w (hv z (List.mem_of_getElem? hz)).1)
  clear hp hv hlen hy hz
  go_enter Try.func23, Try.ntmps23
  go_wp2_with fail
  generalize hw0 : (w.alloc (.cells #[.int .i64 y.k, .int .u16 y.a, .int .u16 y.b, .int .u16 y.c, .int .u16 y.d] 26 (0, 0))).alloc _ = w0
  have c0 : ∀ w', Since w0 w' → w'.cell? ⟨w.heap.size, 0, none⟩ = some (.int .i64 y.k) := fun w' h => cell_later h.below (by rw [← hw0]; simp [go_sem])
  have c1 : ∀ w', Since w0 w' → w'.cell? ⟨w.heap.size, 1, none⟩ = some (.int .u16 y.a) := fun w' h => cell_later h.below (by rw [← hw0]; simp [go_sem])
  have c2 : ∀ w', Since w0 w' → w'.cell? ⟨w.heap.size, 2, none⟩ = some (.int .u16 y.b) := fun w' h => cell_later h.below (by rw [← hw0]; simp [go_sem])
  have c3 : ∀ w', Since w0 w' → w'.cell? ⟨w.heap.size, 3, none⟩ = some (.int .u16 y.c) := fun w' h => cell_later h.below (by rw [← hw0]; simp [go_sem])
  have c4 : ∀ w', Since w0 w' → w'.cell? ⟨w.heap.size, 4, none⟩ = some (.int .u16 y.d) := fun w' h => cell_later h.below (by rw [← hw0]; simp [go_sem])
  have r0 : ∀ w', Since w0 w' → w'.cell? ⟨w.heap.size + 1, 0, none⟩ = some (.int .i64 0) := fun w' h => cell_later h.below (by rw [← hw0]; simp [go_sem])
  have r1 : ∀ w', Since w0 w' → w'.cell? ⟨w.heap.size + 1, 1, none⟩ = some (.int .u16 0) := fun w' h => cell_later h.below (by rw [← hw0]; simp [go_sem])
  have r2 : ∀ w', Since w0 w' → w'.cell? ⟨w.heap.size + 1, 2, none⟩ = some (.int .u16 0) := fun w' h => cell_later h.below (by rw [← hw0]; simp [go_sem])
  have r3 : ∀ w', Since w0 w' → w'.cell? ⟨w.heap.size + 1, 3, none⟩ = some (.int .u16 0) := fun w' h => cell_later h.below (by rw [← hw0]; simp [go_sem])
  have r4 : ∀ w', Since w0 w' → w'.cell? ⟨w.heap.size + 1, 4, none⟩ = some (.int .u16 0) := fun w' h => cell_later h.below (by rw [← hw0]; simp [go_sem])
  have hs : w0.heap.size = w.heap.size + 2 := by rw [← hw0]; simp
  have fz : ∀ w', Since w0 w' → ∀ j, w'.frozen? ⟨w.heap.size + 1, j, none⟩ = false := fun w' h j => (h.below.frozen (p := ⟨w.heap.size + 1, j, none⟩) (by rw [hs]; simp)).trans (by rw [← hw0]; simp [go_sem])
  have hB0 : Below w.heap.size w w0 := by rw [← hw0]; exact laterAlloc (laterAlloc (Below.refl _ _) _) _
  clear hw0
  have HS := Lib.hid hs
  clear hs
  have RR := Lib.hid (And.intro r0 (And.intro r1 (And.intro r2 (And.intro r3 (And.intro r4 fz)))))
  clear r0 r1 r2 r3 r4 fz
  go_region_held3 (fun w' => Since w0 w')
    (first | with_reducible assumption | with_reducible exact (Since.refl _).drew | with_reducible exact Since.refl _ | with_reducible exact Since.call (by assumption) (by assumption))
    (first | (go_at_call 25; refine (implPaletteC B off len cap ps _ (HP.out.call (later (Since.below (by assumption)) hB0)) HV.out HL.out hpos hm).mono ?_; rintro e w' ⟨g, cp, rfl, hpal, hb⟩) | (go_at_call 27; refine (colorOf_any y.k y.a y.b y.c y.d _ HY.out.1).mono ?_; rintro e w' ⟨rfl, hb⟩) | (go_at_call 32; refine (paletteConvert _ len _ ps y z _ (by first | with_reducible assumption | with_reducible exact PalC.call (by with_reducible assumption) (by with_reducible assumption)) HV.out HY.out HL.out hpos hm HZ.out).mono ?_; rintro e w' ⟨rfl, hb⟩))
  rename_i hH
  clear c0 c1 c2 c3 c4
  go_wp2_with fail
  refine (HD.out _).mono ?_
  rintro e w6 ⟨rfl, b6⟩
  have hN : Since w0 w6 := hH.call b6
  obtain ⟨r0, r1, r2, r3, r4, fz⟩ := RR.out
  have q0 := r0 _ hN
  have q1 := r1 _ hN
  have q2 := r2 _ hN
  have q3 := r3 _ hN
  have q4 := r4 _ hN
  have qf := fz _ hN
  have hz6 : w.heap.size + 1 < w6.heap.size := by have := hN.below.size; rw [HS.out] at this; omega
  clear r0 r1 r2 r3 r4 fz
  go_wp2_with fail
  refine bodyPost_ret (v := .tuple #[.agg #[.int .i64 z.k, .int .u16 z.a, .int .u16 z.b, .int .u16 z.c, .int .u16 z.d], .bool true]) (by simp [results, Try.results23, go_sem, q0, q1, q2, q3, q4]) rfl ⟨rfl, ?_⟩
  have hB : Below w.heap.size w w6 := later hN.below hB0
  refine ((((hB.setCell ?_ _).setCell ?_ _).setCell ?_ _).setCell ?_ _).setCell ?_ _
  all_goals simp
end Go.Proofs.Ytbehpaclnpildaa
