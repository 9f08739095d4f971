/- slices.IndexFunc and slices.ContainsFunc over a palette, at the closures of the laws. -/
import Derived.Test.YtbehpaclnpildaaOpenPal
import Derived.Test.YtbehpaclnpildaaBase
import Derived.WalkLawsBesides
import Derived.Lib.Hide
namespace Go.Proofs.Ytbehpaclnpildaa
open Go.ChangeShapes Go.WideShapes Go.ChangeAt Go.RowKit
set_option linter.unusedVariables false

set_option maxHeartbeats 1000000 in
theorem indexFunc_none_palette (B off len cap : Nat) (ps : List Col) (w : World) (hp : PalAt w B off ps) (hlen : ps.length = len) (hm : len ≤ 2147483647)
    (hf : ∀ x ∈ ps, ∀ wx, Below w.heap.size w wx → Calls Try.prog 24 #[.agg #[.int .i64 x.k, .int .u16 x.a, .int .u16 x.b, .int .u16 x.c, .int .u16 x.d]] wx fun e w' => e = .returned (.bool false) ∧ Below wx.heap.size wx w') :
    Calls Try.prog 29 #[.slice (some ⟨B, off, none⟩) len cap, .func (.func 24) #[] #[]] w fun e w' => e = .returned (.int .i64 (-1)) ∧ Below w.heap.size w w' := by
  have H := Lib.hid hf
  have HP := Lib.hid hp
  have HL := Lib.hid hlen
  clear hf hp hlen
  go_enter Try.func29, Try.ntmps29
  go_wp2
  go_loopw [5, 8] (fun i5 i wr => ∃ q : Nat, q ≤ len ∧ i = .int .i64 q ∧ Below w.heap.size w wr) (fun _ i _ => len - (intOf i).toNat)
  case atStart => exact ⟨0, Nat.zero_le _, rfl, Below.refl _ _⟩
  case round =>
    obtain ⟨q, hq, rfl, hB⟩ := hrel
    by_cases hlt : q < len
    · obtain ⟨x, hx⟩ : ∃ x, ps[q]? = some x := ⟨_, List.getElem?_eq_getElem (by rw [HL.out]; omega)⟩
      obtain ⟨⟨c0, c1, c2, c3, c4⟩, _⟩ := HP.out q x hx
      have d0 := cell_later hB c0
      have d1 := cell_later hB c1
      have d2 := cell_later hB c2
      have d3 := cell_later hB c3
      have d4 := cell_later hB c4
      have HC := Lib.hid (H.out x (List.mem_of_getElem? hx) _ hB)
      clear hx c0 c1 c2 c3 c4
      go_wp2_with fail
      refine HC.out.mono ?_
      rintro e w2 ⟨rfl, b2⟩
      go_wp2_with fail
      go_roundw
      case rel => exact ⟨q + 1, by omega, by go_num, later b2 hB⟩
      case measure => simp [intOf]; omega
    · go_wp2_with fail
      go_ret
      exact ⟨rfl, hB⟩

theorem contains_none_palette (B off len cap : Nat) (ps : List Col) (w : World) (hp : PalAt w B off ps) (hlen : ps.length = len) (hm : len ≤ 2147483647)
    (hf : ∀ x ∈ ps, ∀ wx, Below w.heap.size w wx → Calls Try.prog 24 #[.agg #[.int .i64 x.k, .int .u16 x.a, .int .u16 x.b, .int .u16 x.c, .int .u16 x.d]] wx fun e w' => e = .returned (.bool false) ∧ Below wx.heap.size wx w') :
    Calls Try.prog 15 #[.slice (some ⟨B, off, none⟩) len cap, .func (.func 24) #[] #[]] w fun e w' => e = .returned (.bool false) ∧ Below w.heap.size w w' := by
  have H := Lib.hid (indexFunc_none_palette B off len cap ps w hp hlen hm hf)
  clear hf hp hlen
  go_enter Try.func15, Try.ntmps15
  go_wp2_with fail
  refine H.out.mono ?_
  rintro e w1 ⟨rfl, b1⟩
  go_wp2_with fail
  go_ret
  exact ⟨rfl, b1⟩

set_option maxHeartbeats 1000000 in
theorem indexFunc_some_palette (B off len cap : Nat) (ps : List Col) (w : World) (hp : PalAt w B off ps) (hlen : ps.length = len) (hm : len ≤ 2147483647)
    (j : Nat) (hj : j < len) (hf : ∀ (i : Nat) (x : Col), ps[i]? = some x → i < j → ∀ wx, Below w.heap.size w wx → Calls Try.prog 24 #[.agg #[.int .i64 x.k, .int .u16 x.a, .int .u16 x.b, .int .u16 x.c, .int .u16 x.d]] wx fun e w' => e = .returned (.bool false) ∧ Below wx.heap.size wx w') (hy : ∀ x : Col, ps[j]? = some x → ∀ wx, Below w.heap.size w wx → Calls Try.prog 24 #[.agg #[.int .i64 x.k, .int .u16 x.a, .int .u16 x.b, .int .u16 x.c, .int .u16 x.d]] wx fun e w' => e = .returned (.bool true) ∧ Below wx.heap.size wx w') :
    Calls Try.prog 29 #[.slice (some ⟨B, off, none⟩) len cap, .func (.func 24) #[] #[]] w fun e w' => e = .returned (.int .i64 (j : Int)) ∧ Below w.heap.size w w' := by
  have H := Lib.hid hf
  have HP := Lib.hid hp
  have HL := Lib.hid hlen
  have HY := Lib.hid hy
  clear hy
  clear hf hp hlen
  go_enter Try.func29, Try.ntmps29
  go_wp2
  go_loopw [5, 8] (fun i5 i wr => ∃ q : Nat, q ≤ j ∧ i = .int .i64 q ∧ Below w.heap.size w wr) (fun _ i _ => len - (intOf i).toNat)
  case atStart => exact ⟨0, Nat.zero_le _, rfl, Below.refl _ _⟩
  case round =>
    obtain ⟨q, hq, rfl, hB⟩ := hrel
    by_cases hlt : q < j
    · have hlt' : q < len := by omega
      obtain ⟨x, hx⟩ : ∃ x, ps[q]? = some x := ⟨_, List.getElem?_eq_getElem (by rw [HL.out]; omega)⟩
      obtain ⟨⟨c0, c1, c2, c3, c4⟩, _⟩ := HP.out q x hx
      have d0 := cell_later hB c0
      have d1 := cell_later hB c1
      have d2 := cell_later hB c2
      have d3 := cell_later hB c3
      have d4 := cell_later hB c4
      have HC := Lib.hid (H.out q x hx hlt _ hB)
      clear hx c0 c1 c2 c3 c4
      go_wp2_with fail
      refine HC.out.mono ?_
      rintro e w2 ⟨rfl, b2⟩
      go_wp2_with fail
      go_roundw
      case rel => exact ⟨q + 1, by omega, by go_num, later b2 hB⟩
      case measure => simp [intOf]; omega
    · have hqj : q = j := by omega
      subst hqj
      obtain ⟨x, hx⟩ : ∃ x, ps[q]? = some x := ⟨_, List.getElem?_eq_getElem (by rw [HL.out]; omega)⟩
      obtain ⟨⟨c0, c1, c2, c3, c4⟩, _⟩ := HP.out q x hx
      have d0 := cell_later hB c0
      have d1 := cell_later hB c1
      have d2 := cell_later hB c2
      have d3 := cell_later hB c3
      have d4 := cell_later hB c4
      have HC := Lib.hid (HY.out x hx _ hB)
      clear hx c0 c1 c2 c3 c4
      go_wp2_with fail
      refine HC.out.mono ?_
      rintro e w2 ⟨rfl, b2⟩
      go_wp2_with fail
      go_ret
      exact ⟨rfl, later b2 hB⟩

theorem contains_some_palette (B off len cap : Nat) (ps : List Col) (w : World) (hp : PalAt w B off ps) (hlen : ps.length = len) (hm : len ≤ 2147483647)
    (j : Nat) (hj : j < len) (hf : ∀ (i : Nat) (x : Col), ps[i]? = some x → i < j → ∀ wx, Below w.heap.size w wx → Calls Try.prog 24 #[.agg #[.int .i64 x.k, .int .u16 x.a, .int .u16 x.b, .int .u16 x.c, .int .u16 x.d]] wx fun e w' => e = .returned (.bool false) ∧ Below wx.heap.size wx w') (hy : ∀ x : Col, ps[j]? = some x → ∀ wx, Below w.heap.size w wx → Calls Try.prog 24 #[.agg #[.int .i64 x.k, .int .u16 x.a, .int .u16 x.b, .int .u16 x.c, .int .u16 x.d]] wx fun e w' => e = .returned (.bool true) ∧ Below wx.heap.size wx w') :
    Calls Try.prog 15 #[.slice (some ⟨B, off, none⟩) len cap, .func (.func 24) #[] #[]] w fun e w' => e = .returned (.bool true) ∧ Below w.heap.size w w' := by
  have H := Lib.hid (indexFunc_some_palette B off len cap ps w hp hlen hm j hj hf hy)
  clear hf hp hlen hy
  go_enter Try.func15, Try.ntmps15
  go_wp2_with fail
  refine H.out.mono ?_
  rintro e w1 ⟨rfl, b1⟩
  go_wp2_with fail
  go_ret
  exact ⟨rfl, b1⟩

set_option maxHeartbeats 1000000 in
theorem indexFunc_none_small (B off len cap : Nat) (ps : List Col) (w : World) (hp : PalAt w B off ps) (hlen : ps.length = len) (hm : len ≤ 2147483647)
    (hf : ∀ x ∈ ps, ∀ wx, Below w.heap.size w wx → Calls Try.prog 30 #[.agg #[.int .i64 x.k, .int .u16 x.a, .int .u16 x.b, .int .u16 x.c, .int .u16 x.d]] wx fun e w' => e = .returned (.bool false) ∧ Below wx.heap.size wx w') :
    Calls Try.prog 29 #[.slice (some ⟨B, off, none⟩) len cap, .func (.func 30) #[] #[]] w fun e w' => e = .returned (.int .i64 (-1)) ∧ Below w.heap.size w w' := by
  have H := Lib.hid hf
  have HP := Lib.hid hp
  have HL := Lib.hid hlen
  clear hf hp hlen
  go_enter Try.func29, Try.ntmps29
  go_wp2
  go_loopw [5, 8] (fun i5 i wr => ∃ q : Nat, q ≤ len ∧ i = .int .i64 q ∧ Below w.heap.size w wr) (fun _ i _ => len - (intOf i).toNat)
  case atStart => exact ⟨0, Nat.zero_le _, rfl, Below.refl _ _⟩
  case round =>
    obtain ⟨q, hq, rfl, hB⟩ := hrel
    by_cases hlt : q < len
    · obtain ⟨x, hx⟩ : ∃ x, ps[q]? = some x := ⟨_, List.getElem?_eq_getElem (by rw [HL.out]; omega)⟩
      obtain ⟨⟨c0, c1, c2, c3, c4⟩, _⟩ := HP.out q x hx
      have d0 := cell_later hB c0
      have d1 := cell_later hB c1
      have d2 := cell_later hB c2
      have d3 := cell_later hB c3
      have d4 := cell_later hB c4
      have HC := Lib.hid (H.out x (List.mem_of_getElem? hx) _ hB)
      clear hx c0 c1 c2 c3 c4
      go_wp2_with fail
      refine HC.out.mono ?_
      rintro e w2 ⟨rfl, b2⟩
      go_wp2_with fail
      go_roundw
      case rel => exact ⟨q + 1, by omega, by go_num, later b2 hB⟩
      case measure => simp [intOf]; omega
    · go_wp2_with fail
      go_ret
      exact ⟨rfl, hB⟩

theorem contains_none_small (B off len cap : Nat) (ps : List Col) (w : World) (hp : PalAt w B off ps) (hlen : ps.length = len) (hm : len ≤ 2147483647)
    (hf : ∀ x ∈ ps, ∀ wx, Below w.heap.size w wx → Calls Try.prog 30 #[.agg #[.int .i64 x.k, .int .u16 x.a, .int .u16 x.b, .int .u16 x.c, .int .u16 x.d]] wx fun e w' => e = .returned (.bool false) ∧ Below wx.heap.size wx w') :
    Calls Try.prog 15 #[.slice (some ⟨B, off, none⟩) len cap, .func (.func 30) #[] #[]] w fun e w' => e = .returned (.bool false) ∧ Below w.heap.size w w' := by
  have H := Lib.hid (indexFunc_none_small B off len cap ps w hp hlen hm hf)
  clear hf hp hlen
  go_enter Try.func15, Try.ntmps15
  go_wp2_with fail
  refine H.out.mono ?_
  rintro e w1 ⟨rfl, b1⟩
  go_wp2_with fail
  go_ret
  exact ⟨rfl, b1⟩

set_option maxHeartbeats 1000000 in
theorem indexFunc_some_small (B off len cap : Nat) (ps : List Col) (w : World) (hp : PalAt w B off ps) (hlen : ps.length = len) (hm : len ≤ 2147483647)
    (j : Nat) (hj : j < len) (hf : ∀ (i : Nat) (x : Col), ps[i]? = some x → i < j → ∀ wx, Below w.heap.size w wx → Calls Try.prog 30 #[.agg #[.int .i64 x.k, .int .u16 x.a, .int .u16 x.b, .int .u16 x.c, .int .u16 x.d]] wx fun e w' => e = .returned (.bool false) ∧ Below wx.heap.size wx w') (hy : ∀ x : Col, ps[j]? = some x → ∀ wx, Below w.heap.size w wx → Calls Try.prog 30 #[.agg #[.int .i64 x.k, .int .u16 x.a, .int .u16 x.b, .int .u16 x.c, .int .u16 x.d]] wx fun e w' => e = .returned (.bool true) ∧ Below wx.heap.size wx w') :
    Calls Try.prog 29 #[.slice (some ⟨B, off, none⟩) len cap, .func (.func 30) #[] #[]] w fun e w' => e = .returned (.int .i64 (j : Int)) ∧ Below w.heap.size w w' := by
  have H := Lib.hid hf
  have HP := Lib.hid hp
  have HL := Lib.hid hlen
  have HY := Lib.hid hy
  clear hy
  clear hf hp hlen
  go_enter Try.func29, Try.ntmps29
  go_wp2
  go_loopw [5, 8] (fun i5 i wr => ∃ q : Nat, q ≤ j ∧ i = .int .i64 q ∧ Below w.heap.size w wr) (fun _ i _ => len - (intOf i).toNat)
  case atStart => exact ⟨0, Nat.zero_le _, rfl, Below.refl _ _⟩
  case round =>
    obtain ⟨q, hq, rfl, hB⟩ := hrel
    by_cases hlt : q < j
    · have hlt' : q < len := by omega
      obtain ⟨x, hx⟩ : ∃ x, ps[q]? = some x := ⟨_, List.getElem?_eq_getElem (by rw [HL.out]; omega)⟩
      obtain ⟨⟨c0, c1, c2, c3, c4⟩, _⟩ := HP.out q x hx
      have d0 := cell_later hB c0
      have d1 := cell_later hB c1
      have d2 := cell_later hB c2
      have d3 := cell_later hB c3
      have d4 := cell_later hB c4
      have HC := Lib.hid (H.out q x hx hlt _ hB)
      clear hx c0 c1 c2 c3 c4
      go_wp2_with fail
      refine HC.out.mono ?_
      rintro e w2 ⟨rfl, b2⟩
      go_wp2_with fail
      go_roundw
      case rel => exact ⟨q + 1, by omega, by go_num, later b2 hB⟩
      case measure => simp [intOf]; omega
    · have hqj : q = j := by omega
      subst hqj
      obtain ⟨x, hx⟩ : ∃ x, ps[q]? = some x := ⟨_, List.getElem?_eq_getElem (by rw [HL.out]; omega)⟩
      obtain ⟨⟨c0, c1, c2, c3, c4⟩, _⟩ := HP.out q x hx
      have d0 := cell_later hB c0
      have d1 := cell_later hB c1
      have d2 := cell_later hB c2
      have d3 := cell_later hB c3
      have d4 := cell_later hB c4
      have HC := Lib.hid (HY.out x hx _ hB)
      clear hx c0 c1 c2 c3 c4
      go_wp2_with fail
      refine HC.out.mono ?_
      rintro e w2 ⟨rfl, b2⟩
      go_wp2_with fail
      go_ret
      exact ⟨rfl, later b2 hB⟩

theorem contains_some_small (B off len cap : Nat) (ps : List Col) (w : World) (hp : PalAt w B off ps) (hlen : ps.length = len) (hm : len ≤ 2147483647)
    (j : Nat) (hj : j < len) (hf : ∀ (i : Nat) (x : Col), ps[i]? = some x → i < j → ∀ wx, Below w.heap.size w wx → Calls Try.prog 30 #[.agg #[.int .i64 x.k, .int .u16 x.a, .int .u16 x.b, .int .u16 x.c, .int .u16 x.d]] wx fun e w' => e = .returned (.bool false) ∧ Below wx.heap.size wx w') (hy : ∀ x : Col, ps[j]? = some x → ∀ wx, Below w.heap.size w wx → Calls Try.prog 30 #[.agg #[.int .i64 x.k, .int .u16 x.a, .int .u16 x.b, .int .u16 x.c, .int .u16 x.d]] wx fun e w' => e = .returned (.bool true) ∧ Below wx.heap.size wx w') :
    Calls Try.prog 15 #[.slice (some ⟨B, off, none⟩) len cap, .func (.func 30) #[] #[]] w fun e w' => e = .returned (.bool true) ∧ Below w.heap.size w w' := by
  have H := Lib.hid (indexFunc_some_small B off len cap ps w hp hlen hm j hj hf hy)
  clear hf hp hlen hy
  go_enter Try.func15, Try.ntmps15
  go_wp2_with fail
  refine H.out.mono ?_
  rintro e w1 ⟨rfl, b1⟩
  go_wp2_with fail
  go_ret
  exact ⟨rfl, b1⟩

set_option maxHeartbeats 1000000 in
theorem indexFunc_none_closest (B off len cap : Nat) (ps : List Col) (p0 : Addr) (p1 : Addr) (w : World) (hp : PalAt w B off ps) (hlen : ps.length = len) (hm : len ≤ 2147483647)
    (hf : ∀ x ∈ ps, ∀ wx, Below w.heap.size w wx → Calls Try.prog 16 #[.agg #[.int .i64 x.k, .int .u16 x.a, .int .u16 x.b, .int .u16 x.c, .int .u16 x.d], .pointer (some p0), .pointer (some p1)] wx fun e w' => e = .returned (.bool false) ∧ Below wx.heap.size wx w') :
    Calls Try.prog 29 #[.slice (some ⟨B, off, none⟩) len cap, .func (.func 16) #[] #[.pointer (some p0), .pointer (some p1)]] w fun e w' => e = .returned (.int .i64 (-1)) ∧ Below w.heap.size w w' := by
  have H := Lib.hid hf
  have HP := Lib.hid hp
  have HL := Lib.hid hlen
  clear hf hp hlen
  go_enter Try.func29, Try.ntmps29
  go_wp2
  go_loopw [5, 8] (fun i5 i wr => ∃ q : Nat, q ≤ len ∧ i = .int .i64 q ∧ Below w.heap.size w wr) (fun _ i _ => len - (intOf i).toNat)
  case atStart => exact ⟨0, Nat.zero_le _, rfl, Below.refl _ _⟩
  case round =>
    obtain ⟨q, hq, rfl, hB⟩ := hrel
    by_cases hlt : q < len
    · obtain ⟨x, hx⟩ : ∃ x, ps[q]? = some x := ⟨_, List.getElem?_eq_getElem (by rw [HL.out]; omega)⟩
      obtain ⟨⟨c0, c1, c2, c3, c4⟩, _⟩ := HP.out q x hx
      have d0 := cell_later hB c0
      have d1 := cell_later hB c1
      have d2 := cell_later hB c2
      have d3 := cell_later hB c3
      have d4 := cell_later hB c4
      have HC := Lib.hid (H.out x (List.mem_of_getElem? hx) _ hB)
      clear hx c0 c1 c2 c3 c4
      go_wp2_with fail
      refine HC.out.mono ?_
      rintro e w2 ⟨rfl, b2⟩
      go_wp2_with fail
      go_roundw
      case rel => exact ⟨q + 1, by omega, by go_num, later b2 hB⟩
      case measure => simp [intOf]; omega
    · go_wp2_with fail
      go_ret
      exact ⟨rfl, hB⟩

theorem contains_none_closest (B off len cap : Nat) (ps : List Col) (p0 : Addr) (p1 : Addr) (w : World) (hp : PalAt w B off ps) (hlen : ps.length = len) (hm : len ≤ 2147483647)
    (hf : ∀ x ∈ ps, ∀ wx, Below w.heap.size w wx → Calls Try.prog 16 #[.agg #[.int .i64 x.k, .int .u16 x.a, .int .u16 x.b, .int .u16 x.c, .int .u16 x.d], .pointer (some p0), .pointer (some p1)] wx fun e w' => e = .returned (.bool false) ∧ Below wx.heap.size wx w') :
    Calls Try.prog 15 #[.slice (some ⟨B, off, none⟩) len cap, .func (.func 16) #[] #[.pointer (some p0), .pointer (some p1)]] w fun e w' => e = .returned (.bool false) ∧ Below w.heap.size w w' := by
  have H := Lib.hid (indexFunc_none_closest B off len cap ps p0 p1 w hp hlen hm hf)
  clear hf hp hlen
  go_enter Try.func15, Try.ntmps15
  go_wp2_with fail
  refine H.out.mono ?_
  rintro e w1 ⟨rfl, b1⟩
  go_wp2_with fail
  go_ret
  exact ⟨rfl, b1⟩

set_option maxHeartbeats 1000000 in
theorem indexFunc_none_bytes (B off len cap : Nat) (ps : List Col) (p0 : Addr) (p1 : Addr) (w : World) (hp : PalAt w B off ps) (hlen : ps.length = len) (hm : len ≤ 2147483647)
    (hf : ∀ x ∈ ps, ∀ wx, Below w.heap.size w wx → Calls Try.prog 18 #[.agg #[.int .i64 x.k, .int .u16 x.a, .int .u16 x.b, .int .u16 x.c, .int .u16 x.d], .pointer (some p0), .pointer (some p1)] wx fun e w' => e = .returned (.bool false) ∧ Below wx.heap.size wx w') :
    Calls Try.prog 29 #[.slice (some ⟨B, off, none⟩) len cap, .func (.func 18) #[] #[.pointer (some p0), .pointer (some p1)]] w fun e w' => e = .returned (.int .i64 (-1)) ∧ Below w.heap.size w w' := by
  have H := Lib.hid hf
  have HP := Lib.hid hp
  have HL := Lib.hid hlen
  clear hf hp hlen
  go_enter Try.func29, Try.ntmps29
  go_wp2
  go_loopw [5, 8] (fun i5 i wr => ∃ q : Nat, q ≤ len ∧ i = .int .i64 q ∧ Below w.heap.size w wr) (fun _ i _ => len - (intOf i).toNat)
  case atStart => exact ⟨0, Nat.zero_le _, rfl, Below.refl _ _⟩
  case round =>
    obtain ⟨q, hq, rfl, hB⟩ := hrel
    by_cases hlt : q < len
    · obtain ⟨x, hx⟩ : ∃ x, ps[q]? = some x := ⟨_, List.getElem?_eq_getElem (by rw [HL.out]; omega)⟩
      obtain ⟨⟨c0, c1, c2, c3, c4⟩, _⟩ := HP.out q x hx
      have d0 := cell_later hB c0
      have d1 := cell_later hB c1
      have d2 := cell_later hB c2
      have d3 := cell_later hB c3
      have d4 := cell_later hB c4
      have HC := Lib.hid (H.out x (List.mem_of_getElem? hx) _ hB)
      clear hx c0 c1 c2 c3 c4
      go_wp2_with fail
      refine HC.out.mono ?_
      rintro e w2 ⟨rfl, b2⟩
      go_wp2_with fail
      go_roundw
      case rel => exact ⟨q + 1, by omega, by go_num, later b2 hB⟩
      case measure => simp [intOf]; omega
    · go_wp2_with fail
      go_ret
      exact ⟨rfl, hB⟩

theorem contains_none_bytes (B off len cap : Nat) (ps : List Col) (p0 : Addr) (p1 : Addr) (w : World) (hp : PalAt w B off ps) (hlen : ps.length = len) (hm : len ≤ 2147483647)
    (hf : ∀ x ∈ ps, ∀ wx, Below w.heap.size w wx → Calls Try.prog 18 #[.agg #[.int .i64 x.k, .int .u16 x.a, .int .u16 x.b, .int .u16 x.c, .int .u16 x.d], .pointer (some p0), .pointer (some p1)] wx fun e w' => e = .returned (.bool false) ∧ Below wx.heap.size wx w') :
    Calls Try.prog 15 #[.slice (some ⟨B, off, none⟩) len cap, .func (.func 18) #[] #[.pointer (some p0), .pointer (some p1)]] w fun e w' => e = .returned (.bool false) ∧ Below w.heap.size w w' := by
  have H := Lib.hid (indexFunc_none_bytes B off len cap ps p0 p1 w hp hlen hm hf)
  clear hf hp hlen
  go_enter Try.func15, Try.ntmps15
  go_wp2_with fail
  refine H.out.mono ?_
  rintro e w1 ⟨rfl, b1⟩
  go_wp2_with fail
  go_ret
  exact ⟨rfl, b1⟩
end Go.Proofs.Ytbehpaclnpildaa
