/- impl.palette makes the interface values of a palette's colors. -/
import Derived.Test.YtbehpaclnpildaaOpenPal
import Derived.Test.YtbehpaclnpildaaColor
import Derived.WalkLawsBesides
import Derived.Lib.Hide
import Derived.OwnWalk
namespace Go.Proofs.Ytbehpaclnpildaa
open Go.ChangeShapes Go.WideShapes Go.ChangeAt Go.RowKit Plain
set_option linter.unusedVariables false
/-- The interface value of a color. -/
def iv (x : Col) : Value := .iface (tyOf x.k) (pay x.k x.a x.b x.c x.d)
/-- The walk's end: a new slice of the interface values. -/
def PalRes (w : World) (len : Nat) (xs : List Value) (e : Ending) (w' : World) : Prop := ∃ v, e = .returned v ∧ w'.ownsRow w.heap.size 47 1 v len xs ∧ Below w.heap.size w w'
theorem infoColor : (Try.prog.info? 47).map (fun i => (i.zero, i.size, i.bytes)) = some (some .nilIface, 1, 16) := by kernel_rfl

theorem ownsRow_below {wx w' : World} {base : Nat} {e : TypeId} {size : Nat} {v : Value} {n : Nat} {xs : List Value} (hb : Below wx.heap.size wx w') (h : wx.ownsRow base e size v n xs) : w'.ownsRow base e size v n xs := by
  obtain ⟨hl, h⟩ := h
  refine ⟨hl, ?_⟩
  rcases h with h | ⟨g, cap, cur, hv, hg, hc, rest⟩
  · exact .inl h
  · have hlt : g < wx.heap.size := by
      rcases Nat.lt_or_ge g wx.heap.size with h | h
      · exact h
      · rw [Array.getElem?_eq_none h] at hc; cases hc
    exact .inr ⟨g, cap, cur, hv, hg, (hb.block g hlt).trans hc, rest⟩

theorem ownBlock_le {wx : World} {base : Nat} {e : TypeId} {size : Nat} {v : Value} {n : Nat} {xs : List Value} {k : Nat} (h : wx.ownsRow base e size v n xs) (hk : v.ownBlock = some k) : base ≤ k := by
  obtain ⟨_, ⟨rfl, _⟩ | ⟨g, cap, cur, rfl, hg, _⟩⟩ := h
  · cases hk
  · cases hk; exact hg
theorem take_iv {ps : List Col} {q : Nat} {x : Col} (hx : ps[q]? = some x) : (ps.take (q + 1)).map iv = (ps.take q).map iv ++ [iv x] := by
  obtain ⟨hq, rfl⟩ := List.getElem?_eq_some_iff.1 hx
  rw [List.take_succ_eq_append_getElem hq, List.map_append]
  rfl

set_option maxHeartbeats 2000000 in
theorem implPalette (B off len cap : Nat) (ps : List Col) (w : World) (hp : PalAt w B off ps) (hv : ∀ x ∈ ps, proper x.k x.a x.b x.c x.d) (hlen : ps.length = len) (hm : len ≤ 2147483648) :
    Calls Try.prog 25 #[.slice (some ⟨B, off, none⟩) len cap] w (PalRes w len (ps.map iv)) := by
  obtain ⟨i0, hi, hz0, hz1, hz2⟩ := info_parts infoColor
  have HP := Lib.hid hp
  have HV := Lib.hid hv
  have HL := Lib.hid hlen
  clear hp hv hlen
  go_enter Try.func25, Try.ntmps25
  go_wp2
  go_loopw [3, 5, 8] (fun v i5 i wr => ∃ q : Nat, q ≤ len ∧ i = .int .i64 q ∧ wr.ownsRow w.heap.size 47 1 v q ((ps.take q).map iv) ∧ Below w.heap.size w wr) (fun _ _ i _ => len - (intOf i).toNat)
  case atStart => exact ⟨0, Nat.zero_le _, rfl, ⟨by simp, .inl ⟨rfl, rfl⟩⟩, Below.refl _ _⟩
  case round =>
    obtain ⟨q, hq, rfl, hown, hB⟩ := hrel
    by_cases hlt : q < len
    · obtain ⟨x, hx⟩ : ∃ x, ps[q]? = some x := ⟨_, List.getElem?_eq_getElem (by rw [HL.out]; omega)⟩
      obtain ⟨⟨c0, c1, c2, c3, c4⟩, _⟩ := HP.out q x hx
      have d0 := cell_later hB c0
      have d1 := cell_later hB c1
      have d2 := cell_later hB c2
      have d3 := cell_later hB c3
      have d4 := cell_later hB c4
      have HX := Lib.hid hx
      have HC := Lib.hid (fun w => colorOf_any x.k x.a x.b x.c x.d w (HV.out x (List.mem_of_getElem? hx)))
      have HO := Lib.hid hown
      clear hx c0 c1 c2 c3 c4 hown
      go_wp2_with fail
      refine (HC.out _).mono ?_
      rintro e w2 ⟨rfl, b2⟩
      have hz2' := b2.size
      simp at hz2'
      have hy := hB.size
      have HO2 := Lib.hid (ownsRow_below (later b2 ((Below.refl _ _).alloc (Nat.le_refl _) _)) HO.out)
      have hB2 : Below w.heap.size w w2 := later b2 (laterAlloc hB _)
      go_wp2_with (at_builtin; refine wpList_append_own _ rfl _ _ 43 rfl w.heap.size 47 i0 .nilIface 1 16 Try.underlying43 hi hz0 hz1 hz2 rfl (by decide) _ q ((ps.take q).map iv) rfl (HO2.out.alloc _) ⟨w2.heap.size, 0, none⟩ 1 1 [iv x] rfl rfl ?c1 ?c2 ?c3 ?c4 ?c5 ?_)
      case c1 => exact cell_one_new _ _ _
      case c2 => intro u hu; simp at hu; subst hu; rfl
      case c3 => unfold maxLen; omega
      case c4 => omega
      case c5 => simp; omega
      intro v' w' hown' hgrow _
      have hB3 : Below w.heap.size w w' := (laterAlloc hB2 _).grown hgrow (by simp; omega) (fun k hk => ownBlock_le HO2.out hk)
      go_wp2_with fail
      go_roundw
      case rel => exact ⟨q + 1, by omega, by go_num, by rw [take_iv HX.out, ← List.map_take] at *; exact hown', hB3⟩
      case measure => simp [intOf]; omega
    · have hqe : q = len := by omega
      subst hqe
      rw [List.take_of_length_le (by rw [HL.out]; exact Nat.le_refl _)] at hown
      go_wp2_with fail
      go_ret
      exact ⟨_, rfl, hown, hB⟩
end Go.Proofs.Ytbehpaclnpildaa
