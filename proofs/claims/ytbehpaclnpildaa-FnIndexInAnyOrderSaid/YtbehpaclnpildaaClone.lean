/- slices.Clone of a palette: a new row of the same colors. -/
import Derived.Test.YtbehpaclnpildaaLawClo
import Derived.OwnWalk
import Derived.Lib.SliceRun
import Derived.Laws.OwnMore
namespace Go.Proofs.Ytbehpaclnpildaa
open Go.ChangeShapes Go.WideShapes Go.ChangeAt Go.RowKit Plain
set_option linter.unusedVariables false
/-- The five cells of a color. -/
def cl (x : Col) : List Value := [.int .i64 x.k, .int .u16 x.a, .int .u16 x.b, .int .u16 x.c, .int .u16 x.d]
/-- The cells of a palette. -/
def flat : List Col → List Value
  | [] => []
  | x :: ps => cl x ++ flat ps
theorem flat_length : ∀ ps : List Col, (flat ps).length = ps.length * 5
  | [] => rfl
  | x :: ps => by
    show (cl x ++ flat ps).length = (ps.length + 1) * 5
    rw [List.length_append, flat_length ps]
    show 5 + ps.length * 5 = _
    omega
theorem flat_append : ∀ ps qs : List Col, flat (ps ++ qs) = flat ps ++ flat qs
  | [], qs => rfl
  | x :: ps, qs => by
    show cl x ++ flat (ps ++ qs) = cl x ++ flat ps ++ flat qs
    rw [flat_append ps qs, List.append_assoc]
theorem flat_one : ∀ ps : List Col, ∀ u ∈ flat ps, u.oneCell' = true
  | [], u, hu => absurd hu List.not_mem_nil
  | x :: ps, u, hu => by
    rcases List.mem_append.1 (show u ∈ cl x ++ flat ps from hu) with h | h
    · simp [cl] at h
      rcases h with rfl | rfl | rfl | rfl | rfl <;> rfl
    · exact flat_one ps u h
/-- Cell j of color i. -/
theorem flat_at : ∀ (ps : List Col) (i j : Nat) (x : Col), ps[i]? = some x → j < 5 → (flat ps)[i * 5 + j]? = (cl x)[j]?
  | [], i, j, x, hx, hj => by simp at hx
  | y :: ps, 0, j, x, hx, hj => by
    simp at hx
    subst hx
    show (cl y ++ flat ps)[0 * 5 + j]? = _
    rw [Nat.zero_mul, Nat.zero_add, List.getElem?_append_left (show j < (cl y).length from hj)]
  | y :: ps, i + 1, j, x, hx, hj => by
    show (cl y ++ flat ps)[(i + 1) * 5 + j]? = _
    rw [List.getElem?_append_right (show (cl y).length ≤ (i + 1) * 5 + j by show 5 ≤ _; omega)]
    show (flat ps)[(i + 1) * 5 + j - 5]? = _
    rw [show (i + 1) * 5 + j - 5 = i * 5 + j by omega]
    exact flat_at ps i j x (by simpa using hx) hj
theorem flat_inv {ps : List Col} {m : Nat} {u : Value} (h : (flat ps)[m]? = some u) : ∃ x, ps[m / 5]? = some x ∧ (cl x)[m % 5]? = some u := by
  have hm : m < ps.length * 5 := by rw [← flat_length]; exact (List.getElem?_eq_some_iff.1 h).1
  have hx : ps[m / 5]? = some (ps[m / 5]'(by omega)) := List.getElem?_eq_getElem (by omega)
  refine ⟨_, hx, ?_⟩
  rw [← flat_at ps (m / 5) (m % 5) _ hx (Nat.mod_lt _ (by decide)), show m / 5 * 5 + m % 5 = m by omega]
  exact h
/-- The cells of a palette in memory, one by one. -/
theorem PalAt.flat {w : World} {B off : Nat} {ps : List Col} (hp : PalAt w B off ps) (m : Nat) (u : Value) (h : (flat ps)[m]? = some u) : w.cell? ((⟨B, off, none⟩ : Addr).add m) = some u := by
  obtain ⟨x, hx, hu⟩ := flat_inv h
  obtain ⟨c0, c1, c2, c3, c4⟩ := hp.cells hx
  rw [add_plain, show off + m = off + m / 5 * 5 + m % 5 by omega]
  have h5 : m % 5 = 0 ∨ m % 5 = 1 ∨ m % 5 = 2 ∨ m % 5 = 3 ∨ m % 5 = 4 := by omega
  rcases h5 with e | e | e | e | e <;> rw [e] at hu ⊢ <;> simp [cl] at hu <;> subst hu
  · exact c0
  · exact c1
  · exact c2
  · exact c3
  · exact c4
/-- A row of its own that holds a palette's cells holds the palette. -/
theorem palAt_row {w : World} {base g n cp : Nat} {ps : List Col} (h : w.ownsRow base 26 5 (.slice (some ⟨g, 0, none⟩) n cp) n (flat ps)) (hf : ∀ x ∈ ps, x.fits) : PalAt w g 0 ps := by
  have hl : ps.length = n := by have := h.1; rw [flat_length] at this; omega
  intro i x hx
  have hi : i < n := by rw [← hl]; exact (List.getElem?_eq_some_iff.1 hx).1
  have one : ∀ j, j < 5 → w.cell? ⟨g, i * 5 + j, none⟩ = (cl x)[j]? := fun j hj => by rw [h.cellAt (i * 5 + j) (by omega), flat_at ps i j x hx hj]
  rw [Nat.zero_add]
  exact ⟨⟨one 0 (by omega), one 1 (by omega), one 2 (by omega), one 3 (by omega), one 4 (by omega)⟩, hf x (List.mem_of_getElem? hx)⟩
theorem PalAt.fits {w : World} {B off : Nat} {ps : List Col} (h : PalAt w B off ps) : ∀ x ∈ ps, x.fits := fun x hx => by
  obtain ⟨i, hi, rfl⟩ := List.getElem_of_mem hx
  exact (h i _ (List.getElem?_eq_getElem hi)).2
theorem infoCol : (Try.prog.info? 26).map (fun i => (i.zero, i.size, i.bytes)) = some (some (.agg #[.int .i64 0, .int .u16 0, .int .u16 0, .int .u16 0, .int .u16 0]), 5, 16) := by kernel_rfl

set_option maxHeartbeats 2000000 in
theorem slicesClone (B off len cap : Nat) (ps : List Col) (w : World) (hp : PalAt w B off ps) (hlen : ps.length = len) (hpos : 0 < len) (hm : len ≤ 2147483648) :
    Calls Try.prog 20 #[.slice (some ⟨B, off, none⟩) len cap] w fun e w' => ∃ g cp, e = .returned (.slice (some ⟨g, 0, none⟩) len cp) ∧ w'.ownsRow w.heap.size 26 5 (.slice (some ⟨g, 0, none⟩) len cp) len (flat ps) ∧ Below w.heap.size w w' := by
  obtain ⟨i0, hi, hz0, hz1, hz2⟩ := info_parts infoCol
  have q22 : ∀ (w : World) (a : Option Addr) (n c n' c' : Nat), (binOp .eql 22 (.slice a n c) (.slice none n' c')).run Try.prog w = .ok (.bool a.isNone) w := fun w a n c n' c' => Lib.run_eql_slice_nil w _ _ a n c n' c' Try.underlying22
  have HP := Lib.hid hp
  have HL := Lib.hid hlen
  clear hp hlen
  go_enter Try.func20, Try.ntmps20
  go_wp2_with (at_builtin; refine wpList_append_own _ rfl _ _ 22 rfl w.heap.size 26 i0 (.agg #[.int .i64 0, .int .u16 0, .int .u16 0, .int .u16 0, .int .u16 0]) 5 16 Try.underlying22 hi hz0 hz1 hz2 rfl (by decide) _ _ _ rfl (World.ownsRow_made w #[] 0 (Nat.le_refl _) (Nat.zero_le _) rfl) ⟨B, off, none⟩ len cap (flat ps) rfl ?qc1 ?qc2 ?qc3 ?qc4 ?qc5 ?qc6 ?_)
  case qc1 => rw [flat_length, HL.out]
  case qc2 => intro j u hj; exact HP.out.alloc.flat j u hj
  case qc3 => exact flat_one ps
  case qc4 => unfold maxLen; omega
  case qc5 => omega
  case qc6 => simp
  intro v' w1 hown hgrow hnil
  have hB : Below w.heap.size w w1 := ((Below.refl _ w).alloc (Nat.le_refl _) _).grown hgrow (by simp) (by intro k hk; simp [Value.ownBlock] at hk; omega)
  have hown' : w1.ownsRow w.heap.size 26 5 v' len (flat ps) := by simpa using hown
  have hex : ∃ g cp, v' = .slice (some ⟨g, 0, none⟩) len cp := by
    rcases hown'.2 with ⟨_, h0⟩ | ⟨g, cp, cur, rfl, _⟩
    · omega
    · exact ⟨g, cp, rfl⟩
  obtain ⟨g, cp, hv⟩ := hex
  rw [hv] at hown' ⊢
  clear hown hgrow hnil hv
  go_wp2
  go_ret
  exact ⟨g, cp, rfl, hown', hB⟩
end Go.Proofs.Ytbehpaclnpildaa
