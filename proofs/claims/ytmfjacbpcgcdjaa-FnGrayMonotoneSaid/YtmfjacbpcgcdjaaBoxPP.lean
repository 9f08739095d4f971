/- Two colors in their boxes, as one word that the walk does not open. No program in sight. -/
import Derived.Test.YtmfjacbpcgcdjaaBoxP
namespace Go.Proofs.Ytmfjacbpcgcdjaa
open Go.RowKit
/-- In world w' the first color lies in the block that was the next one in w, the second one in the block behind it, and all of old is as it was. -/
def Box2 (w : World) (k a b c d k' a' b' c' d' : Int) (w' : World) : Prop := Box w w.heap.size k a b c d w' ∧ Box w (w.heap.size + 1) k' a' b' c' d' w'
section
variable {w wx w' : World} {k a b c d k' a' b' c' d' : Int} {o : Obj} {p p1 p2 p3 : Addr} {v v1 v2 v3 : Value}
theorem Box2.below (h : Box2 w k a b c d k' a' b' c' d' w') : Below w.heap.size w w' := h.1.below
theorem Box2.call (hb : Below wx.heap.size wx w') (h : Box2 w k a b c d k' a' b' c' d' wx) : Box2 w k a b c d k' a' b' c' d' w' := ⟨Box.call hb h.1, Box.call hb h.2⟩
theorem Box2.drew (h : Box2 w k a b c d k' a' b' c' d' wx) : Box2 w k a b c d k' a' b' c' d' wx.drew := ⟨h.1.drew, h.2.drew⟩
theorem Box2.undrew (h : Box2 w k a b c d k' a' b' c' d' wx.drew) : Box2 w k a b c d k' a' b' c' d' wx := ⟨h.1.undrew, h.2.undrew⟩
theorem Box2.up (h : Box2 w k a b c d k' a' b' c' d' wx) : Box2 w k a b c d k' a' b' c' d' (wx.alloc o) := ⟨h.1.up, h.2.up⟩
theorem Box2.set (hp : w.heap.size + 1 < p.block) (h : Box2 w k a b c d k' a' b' c' d' wx) : Box2 w k a b c d k' a' b' c' d' (wx.setCell p v) := ⟨h.1.set (by omega) (by omega), h.2.set (by omega) (by omega)⟩
theorem Box2.down (hw : w.heap.size + 1 < wx.heap.size) (h : Box2 w k a b c d k' a' b' c' d' (wx.alloc o)) : Box2 w k a b c d k' a' b' c' d' wx := ⟨h.1.down (by omega) (by omega), h.2.down (by omega) (by omega)⟩
theorem keepB3 (hb : Below wx.heap.size wx w') (h : Box2 w k a b c d k' a' b' c' d' wx ∧ wx.cell? p1 = some v1 ∧ wx.cell? p2 = some v2 ∧ wx.cell? p3 = some v3) : Box2 w k a b c d k' a' b' c' d' w' ∧ w'.cell? p1 = some v1 ∧ w'.cell? p2 = some v2 ∧ w'.cell? p3 = some v3 := ⟨Box2.call hb h.1, cells3 hb h.2⟩
end
end Go.Proofs.Ytmfjacbpcgcdjaa
