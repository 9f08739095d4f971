/- Small lemmas on worlds that only grow: what was there is there behind a call that makes new memory alone. No program in sight. -/
import Derived.WalkKit
import Derived.WalkSpells
import Derived.Below
namespace Go.Proofs.Ytbehpaclnpildaa
open Go.RowKit

theorem bcell {W w1 : World} (hb : Below W.heap.size W w1) : (∀ b o, b < W.heap.size → w1.cell? ⟨b, o, none⟩ = W.cell? ⟨b, o, none⟩) ∧ (∀ b o, b < W.heap.size → w1.frozen? ⟨b, o, none⟩ = W.frozen? ⟨b, o, none⟩) :=
  ⟨fun b o h => hb.cell (p := ⟨b, o, none⟩) h, fun b o h => hb.frozen (p := ⟨b, o, none⟩) h⟩

/-- One growth behind another. -/
theorem later {w wx w' : World} (hb : Below wx.heap.size wx w') (h : Below w.heap.size w wx) : Below w.heap.size w w' := h.trans (hb.mono h.size)
theorem laterAlloc {w wx : World} (h : Below w.heap.size w wx) (o : Obj) : Below w.heap.size w (wx.alloc o) := h.alloc h.size o
theorem cellAlloc {w : World} {a : Addr} {v : Value} (o : Obj) (h : w.cell? a = some v) : (w.alloc o).cell? a = some v := cell_later ((Below.refl _ _).alloc (Nat.le_refl _) _) h

theorem ret_bool {b : Bool} (h : b = true) : Ending.returned (.bool b) = .returned (.bool true) := by rw [h]
/-- Four results. -/
theorem results_tmp4 {fn : Func} {t u v x : Tmp} (h : fn.results = #[.tmp t, .tmp u, .tmp v, .tmp x]) (tmps : Array Value) (P : Program) (w : World) :
    (results fn tmps).run P w = .ok (.tuple #[tmps.getD t undef, tmps.getD u undef, tmps.getD v undef, tmps.getD x undef]) w := by
  simp [results, h]
theorem tup3 {k : IntKind} {a b c a' b' c' : Int} (h1 : a = a') (h2 : b = b') (h3 : c = c') : Ending.returned (.tuple #[.int k a, .int k b, .int k c]) = Ending.returned (.tuple #[.int k a', .int k b', .int k c']) := by rw [h1, h2, h3]
theorem tup4 {k : IntKind} {a b c d a' b' c' d' : Int} (h1 : a = a') (h2 : b = b') (h3 : c = c') (h4 : d = d') : Ending.returned (.tuple #[.int k a, .int k b, .int k c, .int k d]) = Ending.returned (.tuple #[.int k a', .int k b', .int k c', .int k d']) := by rw [h1, h2, h3, h4]

section
variable {w wx w' : World} {p1 p2 p3 p4 p5 p6 p7 p8 : Addr} {v1 v2 v3 v4 v5 v6 v7 v8 : Value}
theorem cells1 (hb : Below wx.heap.size wx w') (h : wx.cell? p1 = some v1) : w'.cell? p1 = some v1 := cell_later hb h
theorem cells2 (hb : Below wx.heap.size wx w') (h : wx.cell? p1 = some v1 ∧ wx.cell? p2 = some v2) : w'.cell? p1 = some v1 ∧ w'.cell? p2 = some v2 := And.imp (cell_later hb) (cells1 hb) h
theorem cells3 (hb : Below wx.heap.size wx w') (h : wx.cell? p1 = some v1 ∧ wx.cell? p2 = some v2 ∧ wx.cell? p3 = some v3) : w'.cell? p1 = some v1 ∧ w'.cell? p2 = some v2 ∧ w'.cell? p3 = some v3 := And.imp (cell_later hb) (cells2 hb) h
theorem cells4 (hb : Below wx.heap.size wx w') (h : wx.cell? p1 = some v1 ∧ wx.cell? p2 = some v2 ∧ wx.cell? p3 = some v3 ∧ wx.cell? p4 = some v4) : w'.cell? p1 = some v1 ∧ w'.cell? p2 = some v2 ∧ w'.cell? p3 = some v3 ∧ w'.cell? p4 = some v4 := And.imp (cell_later hb) (cells3 hb) h
theorem cells5 (hb : Below wx.heap.size wx w') (h : wx.cell? p1 = some v1 ∧ wx.cell? p2 = some v2 ∧ wx.cell? p3 = some v3 ∧ wx.cell? p4 = some v4 ∧ wx.cell? p5 = some v5) : w'.cell? p1 = some v1 ∧ w'.cell? p2 = some v2 ∧ w'.cell? p3 = some v3 ∧ w'.cell? p4 = some v4 ∧ w'.cell? p5 = some v5 := And.imp (cell_later hb) (cells4 hb) h
theorem cells6 (hb : Below wx.heap.size wx w') (h : wx.cell? p1 = some v1 ∧ wx.cell? p2 = some v2 ∧ wx.cell? p3 = some v3 ∧ wx.cell? p4 = some v4 ∧ wx.cell? p5 = some v5 ∧ wx.cell? p6 = some v6) : w'.cell? p1 = some v1 ∧ w'.cell? p2 = some v2 ∧ w'.cell? p3 = some v3 ∧ w'.cell? p4 = some v4 ∧ w'.cell? p5 = some v5 ∧ w'.cell? p6 = some v6 := And.imp (cell_later hb) (cells5 hb) h
theorem cells7 (hb : Below wx.heap.size wx w') (h : wx.cell? p1 = some v1 ∧ wx.cell? p2 = some v2 ∧ wx.cell? p3 = some v3 ∧ wx.cell? p4 = some v4 ∧ wx.cell? p5 = some v5 ∧ wx.cell? p6 = some v6 ∧ wx.cell? p7 = some v7) : w'.cell? p1 = some v1 ∧ w'.cell? p2 = some v2 ∧ w'.cell? p3 = some v3 ∧ w'.cell? p4 = some v4 ∧ w'.cell? p5 = some v5 ∧ w'.cell? p6 = some v6 ∧ w'.cell? p7 = some v7 := And.imp (cell_later hb) (cells6 hb) h
theorem cells8 (hb : Below wx.heap.size wx w') (h : wx.cell? p1 = some v1 ∧ wx.cell? p2 = some v2 ∧ wx.cell? p3 = some v3 ∧ wx.cell? p4 = some v4 ∧ wx.cell? p5 = some v5 ∧ wx.cell? p6 = some v6 ∧ wx.cell? p7 = some v7 ∧ wx.cell? p8 = some v8) : w'.cell? p1 = some v1 ∧ w'.cell? p2 = some v2 ∧ w'.cell? p3 = some v3 ∧ w'.cell? p4 = some v4 ∧ w'.cell? p5 = some v5 ∧ w'.cell? p6 = some v6 ∧ w'.cell? p7 = some v7 ∧ w'.cell? p8 = some v8 := And.imp (cell_later hb) (cells7 hb) h
/-- What is known of some cells, and that nothing of old has changed, is known behind a call that makes new memory alone. -/
theorem keep1 (hb : Below wx.heap.size wx w') (h : Below w.heap.size w wx ∧ wx.cell? p1 = some v1) : Below w.heap.size w w' ∧ w'.cell? p1 = some v1 := And.imp (later hb) (cells1 hb) h
theorem keep2 (hb : Below wx.heap.size wx w') (h : Below w.heap.size w wx ∧ wx.cell? p1 = some v1 ∧ wx.cell? p2 = some v2) : Below w.heap.size w w' ∧ w'.cell? p1 = some v1 ∧ w'.cell? p2 = some v2 := And.imp (later hb) (cells2 hb) h
theorem keep3 (hb : Below wx.heap.size wx w') (h : Below w.heap.size w wx ∧ wx.cell? p1 = some v1 ∧ wx.cell? p2 = some v2 ∧ wx.cell? p3 = some v3) : Below w.heap.size w w' ∧ w'.cell? p1 = some v1 ∧ w'.cell? p2 = some v2 ∧ w'.cell? p3 = some v3 := And.imp (later hb) (cells3 hb) h
theorem keep4 (hb : Below wx.heap.size wx w') (h : Below w.heap.size w wx ∧ wx.cell? p1 = some v1 ∧ wx.cell? p2 = some v2 ∧ wx.cell? p3 = some v3 ∧ wx.cell? p4 = some v4) : Below w.heap.size w w' ∧ w'.cell? p1 = some v1 ∧ w'.cell? p2 = some v2 ∧ w'.cell? p3 = some v3 ∧ w'.cell? p4 = some v4 := And.imp (later hb) (cells4 hb) h
theorem keep5 (hb : Below wx.heap.size wx w') (h : Below w.heap.size w wx ∧ wx.cell? p1 = some v1 ∧ wx.cell? p2 = some v2 ∧ wx.cell? p3 = some v3 ∧ wx.cell? p4 = some v4 ∧ wx.cell? p5 = some v5) : Below w.heap.size w w' ∧ w'.cell? p1 = some v1 ∧ w'.cell? p2 = some v2 ∧ w'.cell? p3 = some v3 ∧ w'.cell? p4 = some v4 ∧ w'.cell? p5 = some v5 := And.imp (later hb) (cells5 hb) h
theorem keep6 (hb : Below wx.heap.size wx w') (h : Below w.heap.size w wx ∧ wx.cell? p1 = some v1 ∧ wx.cell? p2 = some v2 ∧ wx.cell? p3 = some v3 ∧ wx.cell? p4 = some v4 ∧ wx.cell? p5 = some v5 ∧ wx.cell? p6 = some v6) : Below w.heap.size w w' ∧ w'.cell? p1 = some v1 ∧ w'.cell? p2 = some v2 ∧ w'.cell? p3 = some v3 ∧ w'.cell? p4 = some v4 ∧ w'.cell? p5 = some v5 ∧ w'.cell? p6 = some v6 := And.imp (later hb) (cells6 hb) h
theorem keep7 (hb : Below wx.heap.size wx w') (h : Below w.heap.size w wx ∧ wx.cell? p1 = some v1 ∧ wx.cell? p2 = some v2 ∧ wx.cell? p3 = some v3 ∧ wx.cell? p4 = some v4 ∧ wx.cell? p5 = some v5 ∧ wx.cell? p6 = some v6 ∧ wx.cell? p7 = some v7) : Below w.heap.size w w' ∧ w'.cell? p1 = some v1 ∧ w'.cell? p2 = some v2 ∧ w'.cell? p3 = some v3 ∧ w'.cell? p4 = some v4 ∧ w'.cell? p5 = some v5 ∧ w'.cell? p6 = some v6 ∧ w'.cell? p7 = some v7 := And.imp (later hb) (cells7 hb) h
theorem keep8 (hb : Below wx.heap.size wx w') (h : Below w.heap.size w wx ∧ wx.cell? p1 = some v1 ∧ wx.cell? p2 = some v2 ∧ wx.cell? p3 = some v3 ∧ wx.cell? p4 = some v4 ∧ wx.cell? p5 = some v5 ∧ wx.cell? p6 = some v6 ∧ wx.cell? p7 = some v7 ∧ wx.cell? p8 = some v8) : Below w.heap.size w w' ∧ w'.cell? p1 = some v1 ∧ w'.cell? p2 = some v2 ∧ w'.cell? p3 = some v3 ∧ w'.cell? p4 = some v4 ∧ w'.cell? p5 = some v5 ∧ w'.cell? p6 = some v6 ∧ w'.cell? p7 = some v7 ∧ w'.cell? p8 = some v8 := And.imp (later hb) (cells8 hb) h
end
end Go.Proofs.Ytbehpaclnpildaa
