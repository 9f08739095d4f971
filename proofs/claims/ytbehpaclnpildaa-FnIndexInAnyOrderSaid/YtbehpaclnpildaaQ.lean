/- Small tools for the laws that make a second palette. -/
import Derived.Test.YtbehpaclnpildaaClone
import Derived.Deep.AppendLies
namespace Go.Proofs.Ytbehpaclnpildaa
open Go.ChangeShapes Go.WideShapes Go.ChangeAt Go.RowKit Plain
set_option linter.unusedVariables false
theorem ownsRow_mono {w : World} {b b' : Nat} {e : TypeId} {size : Nat} {v : Value} {n : Nat} {xs : List Value} (hb : b' ≤ b) (h : w.ownsRow b e size v n xs) : w.ownsRow b' e size v n xs := by
  obtain ⟨hl, h⟩ := h
  refine ⟨hl, ?_⟩
  rcases h with h | ⟨g, cap, cur, hv, hg, rest⟩
  · exact .inl h
  · exact .inr ⟨g, cap, cur, hv, Nat.le_trans hb hg, rest⟩
theorem slicesCloneB (b B off len cap : Nat) (ps : List Col) (w : World) (hb : b ≤ w.heap.size) (hp : PalAt w B off ps) (hlen : ps.length = len) (hpos : 0 < len) (hm : len ≤ 2147483648) :
    Calls Try.prog 20 #[.slice (some ⟨B, off, none⟩) len cap] w fun e w' => ∃ g cp, e = .returned (.slice (some ⟨g, 0, none⟩) len cp) ∧ w'.ownsRow b 26 5 (.slice (some ⟨g, 0, none⟩) len cp) len (flat ps) ∧ Below w.heap.size w w' := by
  refine (slicesClone B off len cap ps w hp hlen hpos hm).mono ?_
  rintro e w' ⟨g, cp, rfl, hown, hB⟩
  exact ⟨g, cp, rfl, ownsRow_mono hb hown, hB⟩
theorem Since.grown {w0 w w' : World} {e : TypeId} {size : Nat} {v : Value} {n : Nat} {xs : List Value} (h : Since w0 w) (hown : w.ownsRow w0.heap.size e size v n xs) (hg : w.grownBy w' v.ownBlock) : Since w0 w' :=
  Below.grown h hg h.size (fun k hk => ownBlock_le hown hk)
theorem ColAt.call {wx w' : World} {B o : Nat} {x : Col} (hb : Below wx.heap.size wx w') (h : ColAt wx B o x) : ColAt w' B o x :=
  ⟨cell_later hb h.1, cell_later hb h.2.1, cell_later hb h.2.2.1, cell_later hb h.2.2.2.1, cell_later hb h.2.2.2.2⟩
theorem newsCol {w : World} {B : Nat} {x : Col} (h : ColAt w B 0 x) (j : Nat) (u : Value) (hu : (cl x)[j]? = some u) : w.cell? ((⟨B, 0, none⟩ : Addr).add j) = some u := by
  rw [add_plain, Nat.zero_add]
  obtain ⟨c0, c1, c2, c3, c4⟩ := h
  match j, hu with
  | 0, hu => simp [cl] at hu; subst hu; exact c0
  | 1, hu => simp [cl] at hu; subst hu; exact c1
  | 2, hu => simp [cl] at hu; subst hu; exact c2
  | 3, hu => simp [cl] at hu; subst hu; exact c3
  | 4, hu => simp [cl] at hu; subst hu; exact c4
  | n + 5, hu => simp [cl] at hu
theorem cl_one (x : Col) : ∀ u ∈ cl x, u.oneCell' = true := fun u hu => flat_one [x] u (by show u ∈ cl x ++ []; rw [List.append_nil]; exact hu)
theorem flat_snoc (ps : List Col) (x : Col) : flat ps ++ cl x = flat (ps ++ [x]) := by
  rw [flat_append]
  show _ = flat ps ++ (cl x ++ [])
  rw [List.append_nil]
theorem snocAll {ps : List Col} {x : Col} {P : Col → Prop} (h : ∀ z ∈ ps, P z) (hx : P x) : ∀ z ∈ ps ++ [x], P z := fun z hz => by
  rcases List.mem_append.1 hz with h' | h'
  · exact h z h'
  · rw [List.mem_singleton] at h'; exact h' ▸ hx
end Go.Proofs.Ytbehpaclnpildaa
