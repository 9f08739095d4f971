/- A color that came in by value, opened: a kind and four components, each fitting its type. -/
import Derived.Test.YtbehpaclnpildaaRows
import Derived.WalkKit
import Derived.ProofKit
import Derived.OpenShut
import Derived.Lib.SmallJoins
namespace Go.Proofs.Ytbehpaclnpildaa
open Go.ChangeShapes Go.WideShapes Go.ChangeAt Go.RowKit Go.Joins

theorem array5 {cs : Array Value} (h : cs.size = 5) : ∃ a b c d e, cs = #[a, b, c, d, e] := by
  obtain ⟨l⟩ := cs
  match l, h with
  | [a, b, c, d, e], _ => exact ⟨a, b, c, d, e, rfl⟩

theorem cellsColor : Try.prog.cellsOf 26 = 5 := by kernel_rfl
theorem cellsInt : Try.prog.cellsOf 3 = 1 := by kernel_rfl
theorem cellsU16 : Try.prog.cellsOf 23 = 1 := by kernel_rfl
theorem cellsArr : Try.prog.cellsOf 24 = 4 := by kernel_rfl

/-- The five cells of a color, as they are read. -/
theorem color_cells {H : Type} {enc : TypeId × Value → H} {w : World} {base : Nat} {spare : Nat → Bool} {held : Bool} {fuel : Nat} {x : DataW H × List MemPlace} {v0 v1 v2 v3 v4 : Value}
    (h : DataW.trod enc Try.prog w base spare held fuel 26 [v0, v1, v2, v3, v4] = some x) :
    ∃ k a b c d : Int, v0 = .int .i64 k ∧ v1 = .int .u16 a ∧ v2 = .int .u16 b ∧ v3 = .int .u16 c ∧ v4 = .int .u16 d ∧ (-9223372036854775808 ≤ k ∧ k ≤ 9223372036854775807) ∧ (0 ≤ a ∧ a ≤ 65535) ∧ (0 ≤ b ∧ b ≤ 65535) ∧ (0 ≤ c ∧ c ≤ 65535) ∧ (0 ≤ d ∧ d ≤ 65535) := by
  obtain ⟨y0, y1, n, hx, _, h0, h1⟩ := trod_struct2 Try.underlying26 h
  simp [cellsInt, cellsArr] at h0 h1
  obtain ⟨k, e0, _, wk⟩ := DataW.trod_int Try.underlying3 h0
  obtain ⟨xs, m, _, _, _, hl, hi⟩ := DataW.trod_array Try.underlying24 h1
  match xs, hl with
  | [x0, x1, x2, x3], _ =>
    have i0 := hi 0 (by omega)
    have i1 := hi 1 (by omega)
    have i2 := hi 2 (by omega)
    have i3 := hi 3 (by omega)
    simp [cellsU16] at i0 i1 i2 i3
    obtain ⟨a, e1, _, wa⟩ := DataW.trod_int Try.underlying23 i0
    obtain ⟨b, e2, _, wb⟩ := DataW.trod_int Try.underlying23 i1
    obtain ⟨c, e3, _, wc⟩ := DataW.trod_int Try.underlying23 i2
    obtain ⟨d, e4, _, wd⟩ := DataW.trod_int Try.underlying23 i3
    simp at e0 e1 e2 e3 e4
    exact ⟨k, a, b, c, d, e0, e1, e2, e3, e4, bounds_i64 wk, bounds_u16 wa, bounds_u16 wb, bounds_u16 wc, bounds_u16 wd⟩

theorem open_color {H : Type} {enc : TypeId × Value → H} {w : World} {base : Nat} {spare : Nat → Bool} {held : Bool} {r : Reach} {b0 : Nat} {v : Value} {d : DataW H} {p : List MemPlace}
    (hv : Value.okWide Try.prog w r b0 26 v) (h : DataW.Trod enc Try.prog w base spare held 26 v d p) :
    ∃ k a b c e : Int, v = .agg #[.int .i64 k, .int .u16 a, .int .u16 b, .int .u16 c, .int .u16 e] ∧ (-9223372036854775808 ≤ k ∧ k ≤ 9223372036854775807) ∧ (0 ≤ a ∧ a ≤ 65535) ∧ (0 ≤ b ∧ b ≤ 65535) ∧ (0 ≤ c ∧ c ≤ 65535) ∧ (0 ≤ e ∧ e ≤ 65535) := by
  obtain ⟨cs, rfl, hsz⟩ := okWide_struct Try.underlying26 hv
  obtain ⟨v0, v1, v2, v3, v4, rfl⟩ := array5 (hsz.trans cellsColor)
  obtain ⟨fuel, hf⟩ := h
  obtain ⟨k, a, b, c, e, rfl, rfl, rfl, rfl, rfl, hk, ha, hb, hc, he⟩ := color_cells hf
  exact ⟨k, a, b, c, e, rfl, hk, ha, hb, hc, he⟩
end Go.Proofs.Ytbehpaclnpildaa
