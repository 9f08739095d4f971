/- The box of a color, as one word that the walk does not open: it is kept over calls that make new memory alone, over new blocks, and over stores into other blocks. No program in sight. -/
import Derived.Test.YtbehpaclnpildaaBase
import Derived.WalkKit
namespace Go.Proofs.Ytbehpaclnpildaa
open Go.RowKit
theorem farCell' {wx : World} {p a : Addr} {v u : Value} (hp : a.block ≠ p.block) (h : wx.cell? a = some u) : (wx.setCell p v).cell? a = some u := by
  rw [World.cell?_setCell_other]
  · exact h
  · intro e; exact hp (by rw [e])
theorem downCell' {wx : World} {o : Obj} {a : Addr} {u : Value} (ha : a.block < wx.heap.size) (h : (wx.alloc o).cell? a = some u) : wx.cell? a = some u := by
  rw [World.cell?_alloc_lt _ _ _ ha] at h
  exact h
/-- In world w' the color (k, a, b, c, d) lies in block g, and below block B all is as it was in w. -/
def Box (w : World) (g : Nat) (k a b c d : Int) (w' : World) : Prop := Below w.heap.size w w' ∧ w'.cell? ⟨g, 0, none⟩ = some (.int .i64 k) ∧ w'.cell? ⟨g, 1, none⟩ = some (.int .u16 a) ∧ w'.cell? ⟨g, 2, none⟩ = some (.int .u16 b) ∧ w'.cell? ⟨g, 3, none⟩ = some (.int .u16 c) ∧ w'.cell? ⟨g, 4, none⟩ = some (.int .u16 d)
section
variable {w wx w' : World} {g : Nat} {k a b c d : Int} {o : Obj} {p : Addr} {v : Value}
theorem Box.below (h : Box w g k a b c d w') : Below w.heap.size w w' := h.1
theorem Box.c0 (h : Box w g k a b c d w') : w'.cell? ⟨g, 0, none⟩ = some (.int .i64 k) := h.2.1
theorem Box.c1 (h : Box w g k a b c d w') : w'.cell? ⟨g, 1, none⟩ = some (.int .u16 a) := h.2.2.1
theorem Box.c2 (h : Box w g k a b c d w') : w'.cell? ⟨g, 2, none⟩ = some (.int .u16 b) := h.2.2.2.1
theorem Box.c3 (h : Box w g k a b c d w') : w'.cell? ⟨g, 3, none⟩ = some (.int .u16 c) := h.2.2.2.2.1
theorem Box.c4 (h : Box w g k a b c d w') : w'.cell? ⟨g, 4, none⟩ = some (.int .u16 d) := h.2.2.2.2.2
theorem Box.lt (h : Box w g k a b c d w') : g < w'.heap.size := World.block_lt_of_cell? _ _ h.c0
theorem Box.call (hb : Below wx.heap.size wx w') (h : Box w g k a b c d wx) : Box w g k a b c d w' := ⟨later hb h.1, cell_later hb h.2.1, cell_later hb h.2.2.1, cell_later hb h.2.2.2.1, cell_later hb h.2.2.2.2.1, cell_later hb h.2.2.2.2.2⟩
theorem Box.drew (h : Box w g k a b c d wx) : Box w g k a b c d wx.drew := ⟨h.1.drew, h.2.1, h.2.2.1, h.2.2.2.1, h.2.2.2.2.1, h.2.2.2.2.2⟩
theorem Box.undrew (h : Box w g k a b c d wx.drew) : Box w g k a b c d wx := ⟨⟨h.1.os, h.1.tape, h.1.output, h.1.size, h.1.block⟩, h.2.1, h.2.2.1, h.2.2.2.1, h.2.2.2.2.1, h.2.2.2.2.2⟩
theorem Box.up (h : Box w g k a b c d wx) : Box w g k a b c d (wx.alloc o) := Box.call ((Below.refl _ _).alloc (Nat.le_refl _) _) h
theorem Box.set (hp : w.heap.size ≤ p.block) (hg : g < p.block) (h : Box w g k a b c d wx) : Box w g k a b c d (wx.setCell p v) := ⟨h.1.setCell hp _, farCell' (Nat.ne_of_lt hg) h.2.1, farCell' (Nat.ne_of_lt hg) h.2.2.1, farCell' (Nat.ne_of_lt hg) h.2.2.2.1, farCell' (Nat.ne_of_lt hg) h.2.2.2.2.1, farCell' (Nat.ne_of_lt hg) h.2.2.2.2.2⟩
theorem Box.down (hw : w.heap.size ≤ wx.heap.size) (hg : g < wx.heap.size) (h : Box w g k a b c d (wx.alloc o)) : Box w g k a b c d wx :=
  ⟨⟨h.1.os, h.1.tape, h.1.output, hw, fun k hk => (Below.heap_alloc wx o k (Nat.lt_of_lt_of_le hk hw)).symm.trans (h.1.block k hk)⟩, downCell' hg h.2.1, downCell' hg h.2.2.1, downCell' hg h.2.2.2.1, downCell' hg h.2.2.2.2.1, downCell' hg h.2.2.2.2.2⟩
end
end Go.Proofs.Ytbehpaclnpildaa
