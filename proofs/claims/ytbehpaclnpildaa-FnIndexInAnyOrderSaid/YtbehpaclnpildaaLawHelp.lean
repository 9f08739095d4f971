/- The contracts of laws.palette, laws.small and of their closures. -/
import Derived.Test.YtbehpaclnpildaaImpl
import Derived.Test.YtbehpaclnpildaaFind
import Derived.Test.YtbehpaclnpildaaSmall
namespace Go.Proofs.Ytbehpaclnpildaa
open Go.ChangeShapes Go.WideShapes Go.ChangeAt Go.RowKit Plain
set_option linter.unusedVariables false

/-- The first element of a list that has not a property. -/
theorem first_not {α : Type} {P : α → Prop} : ∀ (l : List α), ¬ (∀ x ∈ l, P x) → ∃ j, j < l.length ∧ (∀ (i : Nat) (x : α), l[i]? = some x → i < j → P x) ∧ (∀ x, l[j]? = some x → ¬ P x)
  | [], h => absurd (fun x hx => absurd hx List.not_mem_nil) h
  | a :: l, h => by
    by_cases ha : P a
    · obtain ⟨j, hj, h1, h2⟩ := first_not l (fun h' => h (fun x hx => by
        rcases List.mem_cons.1 hx with rfl | hx
        · exact ha
        · exact h' x hx))
      refine ⟨j + 1, by simp; omega, fun i x hx hi => ?_, fun x hx => h2 x (by simpa using hx)⟩
      match i, hx with
      | 0, hx => simp at hx; exact hx ▸ ha
      | i + 1, hx => exact h1 i x (by simpa using hx) (by omega)
    · exact ⟨0, by simp, fun i x hx hi => absurd hi (by omega), fun x hx => by simp at hx; exact hx ▸ ha⟩

theorem palette_1_yes (x : Col) (w : World) (h : x.valid) : Calls Try.prog 24 #[.agg #[.int .i64 x.k, .int .u16 x.a, .int .u16 x.b, .int .u16 x.c, .int .u16 x.d]] w fun e w' => e = .returned (.bool false) ∧ Below w.heap.size w w' := by
  have V := Lib.hid (fun w => specValid_yes x.k x.a x.b x.c x.d w h)
  clear h
  go_enter Try.func24, Try.ntmps24
  go_wp2_with fail
  refine (V.out _).mono ?_
  rintro e w1 ⟨rfl, b1⟩
  go_wp2_with fail
  go_ret
  exact ⟨rfl, later b1 (laterAlloc (Below.refl _ _) _)⟩
theorem palette_1_no (x : Col) (w : World) (hx : x.fits) (h : ¬ x.valid) : Calls Try.prog 24 #[.agg #[.int .i64 x.k, .int .u16 x.a, .int .u16 x.b, .int .u16 x.c, .int .u16 x.d]] w fun e w' => e = .returned (.bool true) ∧ Below w.heap.size w w' := by
  obtain ⟨_, ha, hb, hc, hd⟩ := hx
  have V := Lib.hid (fun w => specValid_no x.k x.a x.b x.c x.d w ha.1 ha.2 hb.1 hb.2 hc.1 hc.2 hd.1 hd.2 h)
  clear h
  go_enter Try.func24, Try.ntmps24
  go_wp2_with fail
  refine (V.out _).mono ?_
  rintro e w1 ⟨rfl, b1⟩
  go_wp2_with fail
  go_ret
  exact ⟨rfl, later b1 (laterAlloc (Below.refl _ _) _)⟩

/-- An empty palette. -/
theorem palette_empty (a0 : Option Addr) (cap : Nat) (y : Col) (w : World) : Calls Try.prog 11 #[.slice a0 0 cap, .agg #[.int .i64 y.k, .int .u16 y.a, .int .u16 y.b, .int .u16 y.c, .int .u16 y.d]] w fun e w' => e = .returned (.bool false) ∧ Below w.heap.size w w' := by
  go_enter Try.func11, Try.ntmps11
  go_wp2_with fail
  go_ret
  exact ⟨rfl, laterAlloc (Below.refl _ _) _⟩
set_option maxHeartbeats 1000000 in
theorem palette_yes (B off len cap : Nat) (ps : List Col) (y : Col) (w : World) (hp : PalAt w B off ps) (hlen : ps.length = len) (hpos : 0 < len) (hm : len ≤ 2147483647) (hy : y.valid) (hv : ∀ x ∈ ps, x.valid) :
    Calls Try.prog 11 #[.slice (some ⟨B, off, none⟩) len cap, .agg #[.int .i64 y.k, .int .u16 y.a, .int .u16 y.b, .int .u16 y.c, .int .u16 y.d]] w fun e w' => e = .returned (.bool true) ∧ Below w.heap.size w w' := by
  have V := Lib.hid (fun w => specValid_yes y.k y.a y.b y.c y.d w hy)
  have F := Lib.hid (fun w (hp : PalAt w B off ps) => contains_none_palette B off len cap ps w hp hlen hm (fun x hx wx _ => palette_1_yes x wx (hv x hx)))
  have HP := Lib.hid hp
  clear hp hv hy hlen
  go_enter Try.func11, Try.ntmps11
  go_wp2_with fail
  refine (V.out _).mono ?_
  rintro e w1 ⟨rfl, b1⟩
  go_wp2_with fail
  refine (F.out _ (HP.out.alloc.call b1)).mono ?_
  rintro e w2 ⟨rfl, b2⟩
  go_wp2_with fail
  go_ret
  exact ⟨rfl, later b2 (later b1 (laterAlloc (Below.refl _ _) _))⟩
set_option maxHeartbeats 1000000 in
theorem palette_no (B off len cap : Nat) (ps : List Col) (y : Col) (w : World) (hp : PalAt w B off ps) (hlen : ps.length = len) (hpos : 0 < len) (hm : len ≤ 2147483647) (hyf : y.fits) (hn : ¬ (y.valid ∧ ∀ x ∈ ps, x.valid)) :
    Calls Try.prog 11 #[.slice (some ⟨B, off, none⟩) len cap, .agg #[.int .i64 y.k, .int .u16 y.a, .int .u16 y.b, .int .u16 y.c, .int .u16 y.d]] w fun e w' => e = .returned (.bool false) ∧ Below w.heap.size w w' := by
  by_cases hy : y.valid
  · obtain ⟨j, hj, h1, h2⟩ := first_not (P := Col.valid) ps (fun h => hn ⟨hy, h⟩)
    have V := Lib.hid (fun w => specValid_yes y.k y.a y.b y.c y.d w hy)
    have F := Lib.hid (fun w (hp : PalAt w B off ps) => contains_some_palette B off len cap ps w hp hlen hm j (by omega) (fun i x hx hi wx _ => palette_1_yes x wx (h1 i x hx hi)) (fun x hx wx _ => palette_1_no x wx (hp j x hx).2 (h2 x hx)))
    have HP := Lib.hid hp
    clear hp hn hy hlen h1 h2 hyf
    go_enter Try.func11, Try.ntmps11
    go_wp2_with fail
    refine (V.out _).mono ?_
    rintro e w1 ⟨rfl, b1⟩
    go_wp2_with fail
    refine (F.out _ (HP.out.alloc.call b1)).mono ?_
    rintro e w2 ⟨rfl, b2⟩
    go_wp2_with fail
    go_ret
    exact ⟨rfl, later b2 (later b1 (laterAlloc (Below.refl _ _) _))⟩
  · obtain ⟨_, ha, hb, hc, hd⟩ := hyf
    have V := Lib.hid (fun w => specValid_no y.k y.a y.b y.c y.d w ha.1 ha.2 hb.1 hb.2 hc.1 hc.2 hd.1 hd.2 hy)
    clear hn hy
    go_enter Try.func11, Try.ntmps11
    go_wp2_with fail
    refine (V.out _).mono ?_
    rintro e w1 ⟨rfl, b1⟩
    go_wp2_with fail
    go_ret
    exact ⟨rfl, later b1 (laterAlloc (Below.refl _ _) _)⟩

theorem small_1_yes (x : Col) (w : World) (h : x.small) : Calls Try.prog 30 #[.agg #[.int .i64 x.k, .int .u16 x.a, .int .u16 x.b, .int .u16 x.c, .int .u16 x.d]] w fun e w' => e = .returned (.bool false) ∧ Below w.heap.size w w' := by
  have V := Lib.hid (fun w => specSmall_yes x.k x.a x.b x.c x.d w h)
  clear h
  go_enter Try.func30, Try.ntmps30
  go_wp2_with fail
  refine (V.out _).mono ?_
  rintro e w1 ⟨rfl, b1⟩
  go_wp2_with fail
  go_ret
  exact ⟨rfl, later b1 (laterAlloc (Below.refl _ _) _)⟩
theorem small_1_no (x : Col) (w : World) (hx : x.fits) (h : ¬ x.small) : Calls Try.prog 30 #[.agg #[.int .i64 x.k, .int .u16 x.a, .int .u16 x.b, .int .u16 x.c, .int .u16 x.d]] w fun e w' => e = .returned (.bool true) ∧ Below w.heap.size w w' := by
  obtain ⟨_, ha, hb, hc, hd⟩ := hx
  have V := Lib.hid (fun w => specSmall_no x.k x.a x.b x.c x.d w ha.1 ha.2 hb.1 hb.2 hc.1 hc.2 hd.1 hd.2 h)
  clear h
  go_enter Try.func30, Try.ntmps30
  go_wp2_with fail
  refine (V.out _).mono ?_
  rintro e w1 ⟨rfl, b1⟩
  go_wp2_with fail
  go_ret
  exact ⟨rfl, later b1 (laterAlloc (Below.refl _ _) _)⟩

/-- An empty palette. -/
theorem small_empty (a0 : Option Addr) (cap : Nat) (y : Col) (w : World) : Calls Try.prog 17 #[.slice a0 0 cap, .agg #[.int .i64 y.k, .int .u16 y.a, .int .u16 y.b, .int .u16 y.c, .int .u16 y.d]] w fun e w' => e = .returned (.bool false) ∧ Below w.heap.size w w' := by
  go_enter Try.func17, Try.ntmps17
  go_wp2_with fail
  go_ret
  exact ⟨rfl, laterAlloc (Below.refl _ _) _⟩
set_option maxHeartbeats 1000000 in
theorem small_yes (B off len cap : Nat) (ps : List Col) (y : Col) (w : World) (hp : PalAt w B off ps) (hlen : ps.length = len) (hpos : 0 < len) (hm : len ≤ 2147483647) (hy : y.small) (hv : ∀ x ∈ ps, x.small) :
    Calls Try.prog 17 #[.slice (some ⟨B, off, none⟩) len cap, .agg #[.int .i64 y.k, .int .u16 y.a, .int .u16 y.b, .int .u16 y.c, .int .u16 y.d]] w fun e w' => e = .returned (.bool true) ∧ Below w.heap.size w w' := by
  have V := Lib.hid (fun w => specSmall_yes y.k y.a y.b y.c y.d w hy)
  have F := Lib.hid (fun w (hp : PalAt w B off ps) => contains_none_small B off len cap ps w hp hlen hm (fun x hx wx _ => small_1_yes x wx (hv x hx)))
  have HP := Lib.hid hp
  clear hp hv hy hlen
  go_enter Try.func17, Try.ntmps17
  go_wp2_with fail
  refine (V.out _).mono ?_
  rintro e w1 ⟨rfl, b1⟩
  go_wp2_with fail
  refine (F.out _ (HP.out.alloc.call b1)).mono ?_
  rintro e w2 ⟨rfl, b2⟩
  go_wp2_with fail
  go_ret
  exact ⟨rfl, later b2 (later b1 (laterAlloc (Below.refl _ _) _))⟩
set_option maxHeartbeats 1000000 in
theorem small_no (B off len cap : Nat) (ps : List Col) (y : Col) (w : World) (hp : PalAt w B off ps) (hlen : ps.length = len) (hpos : 0 < len) (hm : len ≤ 2147483647) (hyf : y.fits) (hn : ¬ (y.small ∧ ∀ x ∈ ps, x.small)) :
    Calls Try.prog 17 #[.slice (some ⟨B, off, none⟩) len cap, .agg #[.int .i64 y.k, .int .u16 y.a, .int .u16 y.b, .int .u16 y.c, .int .u16 y.d]] w fun e w' => e = .returned (.bool false) ∧ Below w.heap.size w w' := by
  by_cases hy : y.small
  · obtain ⟨j, hj, h1, h2⟩ := first_not (P := Col.small) ps (fun h => hn ⟨hy, h⟩)
    have V := Lib.hid (fun w => specSmall_yes y.k y.a y.b y.c y.d w hy)
    have F := Lib.hid (fun w (hp : PalAt w B off ps) => contains_some_small B off len cap ps w hp hlen hm j (by omega) (fun i x hx hi wx _ => small_1_yes x wx (h1 i x hx hi)) (fun x hx wx _ => small_1_no x wx (hp j x hx).2 (h2 x hx)))
    have HP := Lib.hid hp
    clear hp hn hy hlen h1 h2 hyf
    go_enter Try.func17, Try.ntmps17
    go_wp2_with fail
    refine (V.out _).mono ?_
    rintro e w1 ⟨rfl, b1⟩
    go_wp2_with fail
    refine (F.out _ (HP.out.alloc.call b1)).mono ?_
    rintro e w2 ⟨rfl, b2⟩
    go_wp2_with fail
    go_ret
    exact ⟨rfl, later b2 (later b1 (laterAlloc (Below.refl _ _) _))⟩
  · obtain ⟨_, ha, hb, hc, hd⟩ := hyf
    have V := Lib.hid (fun w => specSmall_no y.k y.a y.b y.c y.d w ha.1 ha.2 hb.1 hb.2 hc.1 hc.2 hd.1 hd.2 hy)
    clear hn hy
    go_enter Try.func17, Try.ntmps17
    go_wp2_with fail
    refine (V.out _).mono ?_
    rintro e w1 ⟨rfl, b1⟩
    go_wp2_with fail
    go_ret
    exact ⟨rfl, later b1 (laterAlloc (Below.refl _ _) _)⟩
end Go.Proofs.Ytbehpaclnpildaa
