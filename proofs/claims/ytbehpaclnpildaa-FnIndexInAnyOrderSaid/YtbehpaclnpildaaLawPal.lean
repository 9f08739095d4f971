/- A palette that came in as an argument; small tools for the laws of palettes. -/
import Derived.Test.YtbehpaclnpildaaLawHelp
import Derived.Test.YtbehpaclnpildaaEqArr
import Derived.Test.YtbehpaclnpildaaOpen
import Derived.IntWalk
import Derived.WalkLawsBesides
namespace Go.Proofs.Ytbehpaclnpildaa
open Go.ChangeShapes Go.WideShapes Go.ChangeAt Go.RowKit Go.Deep Plain
set_option linter.unusedVariables false
/-- A slice of colors that came in: an empty one, or its colors lie in memory. -/
def IsPal (w : World) (v : Value) : Prop := (∃ a0 cap, v = .slice a0 0 cap) ∨ ∃ (B off len cap : Nat) (ps : List Col), v = .slice (some ⟨B, off, none⟩) len cap ∧ ps.length = len ∧ 0 < len ∧ len ≤ 9223372036854775807 ∧ PalAt w B off ps
theorem open_palV {H : Type} {enc : TypeId × Value → H} {w : World} {base : Nat} {spare : Nat → Bool} {held : Bool} {r : Reach} {b0 : Nat} {v : Value} {d : DataW H} {p : List MemPlace}
    (hv : Value.okWide Try.prog w r b0 22 v) (h : DataW.Trod enc Try.prog w base spare held 22 v d p) : IsPal w v := by
  obtain ⟨a0, len, cap, rfl⟩ := okWide_slice Try.underlying22 hv
  obtain ⟨fuel, hf⟩ := h
  rcases open_pal hf with rfl | ⟨B, off, ps, rfl, hl, hpos, hlc, hcm, hp⟩
  · exact .inl ⟨a0, cap, rfl⟩
  · exact .inr ⟨B, off, len, cap, ps, rfl, hl, hpos, by unfold maxLen at hcm; omega, hp⟩
theorem PalAt.cells {w : World} {B off : Nat} {ps : List Col} {i : Nat} {z : Col} (h : PalAt w B off ps) (hz : ps[i]? = some z) : ColAt w B (off + i * 5) z := (h i z hz).1
theorem PalAt.lt {w : World} {B off : Nat} {ps : List Col} (h : PalAt w B off ps) (hp : 0 < ps.length) : B < w.heap.size :=
  World.block_lt_of_cell? _ _ (h.cells (List.getElem?_eq_getElem hp)).1
end Go.Proofs.Ytbehpaclnpildaa
