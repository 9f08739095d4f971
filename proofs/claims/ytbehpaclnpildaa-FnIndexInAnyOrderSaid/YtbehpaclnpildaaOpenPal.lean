/- A slice of colors that came in, opened: each element's five cells. -/
import Derived.Test.YtbehpaclnpildaaOpen
import Derived.Deep.Slices
namespace Go.Proofs.Ytbehpaclnpildaa
open Go.ChangeShapes Go.WideShapes Go.ChangeAt Go.RowKit Go.Deep

/-- A color as data. -/
structure Col where
  k : Int
  a : Int
  b : Int
  c : Int
  d : Int
/-- Its numbers fit their types. -/
def Col.fits (x : Col) : Prop := (-9223372036854775808 ≤ x.k ∧ x.k ≤ 9223372036854775807) ∧ (0 ≤ x.a ∧ x.a ≤ 65535) ∧ (0 ≤ x.b ∧ x.b ≤ 65535) ∧ (0 ≤ x.c ∧ x.c ≤ 65535) ∧ (0 ≤ x.d ∧ x.d ≤ 65535)
/-- In world w the color x lies at offset o of block B. -/
def ColAt (w : World) (B o : Nat) (x : Col) : Prop := w.cell? ⟨B, o, none⟩ = some (.int .i64 x.k) ∧ w.cell? ⟨B, o + 1, none⟩ = some (.int .u16 x.a) ∧ w.cell? ⟨B, o + 2, none⟩ = some (.int .u16 x.b) ∧ w.cell? ⟨B, o + 3, none⟩ = some (.int .u16 x.c) ∧ w.cell? ⟨B, o + 4, none⟩ = some (.int .u16 x.d)
/-- A palette of at least one color that came in. -/
def PalAt (w : World) (B off : Nat) (ps : List Col) : Prop := ∀ (i : Nat) (x : Col), ps[i]? = some x → ColAt w B (off + i * 5) x ∧ x.fits

theorem add_plain (B o n : Nat) : (⟨B, o, none⟩ : Addr).add n = ⟨B, o + n, none⟩ := by
  unfold Addr.add
  split
  · rename_i h; rw [h]; rfl
  · rfl
theorem open_pal {H : Type} {enc : TypeId × Value → H} {w : World} {base : Nat} {spare : Nat → Bool} {held : Bool} {fuel : Nat} {a0 : Option Addr} {len cap : Nat} {x : DataW H × List MemPlace}
    (h : DataW.trod enc Try.prog w base spare held fuel 22 [.slice a0 len cap] = some x) :
    len = 0 ∨ ∃ (B off : Nat) (ps : List Col), a0 = some ⟨B, off, none⟩ ∧ ps.length = len ∧ 0 < len ∧ len ≤ cap ∧ cap ≤ maxLen ∧ PalAt w B off ps := by
  rcases open_slice Try.underlying22 h with ⟨hcs, _⟩ | ⟨a, l, c, m, n, D, Pl, hcs, hb, hl, hm, hmm, hx, hi⟩
  · simp at hcs
    exact .inl hcs.2.1
  simp at hcs
  obtain ⟨rfl, rfl, rfl⟩ := hcs
  by_cases h0 : len = 0
  · exact .inl h0
  right
  have hlm : len ≤ m := by rw [hmm]; split <;> omega
  have one : ∀ i, i < len → ∃ y : Col, y.fits ∧ (w.cell? (a.add (i * 5)) = some (.int .i64 y.k) ∧ w.cell? ((a.add (i * 5)).add 1) = some (.int .u16 y.a) ∧ w.cell? ((a.add (i * 5)).add 2) = some (.int .u16 y.b) ∧ w.cell? ((a.add (i * 5)).add 3) = some (.int .u16 y.c) ∧ w.cell? ((a.add (i * 5)).add 4) = some (.int .u16 y.d)) := by
    intro i hil
    obtain ⟨cs', h1, h2⟩ := hi i (by omega)
    rw [cellsColor] at h1
    obtain ⟨_, hlen, hat⟩ := World.cells?_some h1
    match cs', hlen with
    | [v0, v1, v2, v3, v4], _ =>
      obtain ⟨k, p, q, r, s, rfl, rfl, rfl, rfl, rfl, hk, hp, hq, hr, hs⟩ := color_cells h2
      refine ⟨⟨k, p, q, r, s⟩, ⟨hk, hp, hq, hr, hs⟩, ?_, ?_, ?_, ?_, ?_⟩
      · have := hat 0 (by omega); simpa [Addr.add] using this
      · have := hat 1 (by omega); simpa using this
      · have := hat 2 (by omega); simpa using this
      · have := hat 3 (by omega); simpa using this
      · have := hat 4 (by omega); simpa using this
  obtain ⟨B, off, spot⟩ := a
  have hsp : spot = none := by
    obtain ⟨y, _, hc, _⟩ := one 0 (by omega)
    simpa [Addr.add] using World.cell?_spot hc
  subst hsp
  have : Inhabited Col := ⟨⟨0, 0, 0, 0, 0⟩⟩
  obtain ⟨f, hf⟩ := choose_lt (α := Col) (p := fun i y => y.fits ∧ ColAt w B (off + i * 5) y) (n := len) (fun i hil => by
    obtain ⟨y, hy, c0, c1, c2, c3, c4⟩ := one i hil
    rw [add_plain] at c0
    rw [add_plain, add_plain] at c1 c2 c3 c4
    exact ⟨y, hy, c0, c1, c2, c3, c4⟩)
  refine ⟨B, off, (List.range len).map f, rfl, by simp, by omega, hl, hm, fun i y hy => ?_⟩
  obtain ⟨hil, rfl⟩ : i < len ∧ f i = y := by
    rw [List.getElem?_map] at hy
    cases hr : (List.range len)[i]? with
    | none => rw [hr] at hy; cases hy
    | some j =>
      rw [hr] at hy
      obtain ⟨hlt, hj⟩ := List.getElem?_eq_some_iff.1 hr
      simp at hj hlt hy
      subst hj
      exact ⟨hlt, hy⟩
  exact ⟨(hf i hil).2, (hf i hil).1⟩
end Go.Proofs.Ytbehpaclnpildaa
