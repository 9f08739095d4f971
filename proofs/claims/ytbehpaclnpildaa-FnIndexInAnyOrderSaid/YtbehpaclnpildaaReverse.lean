/- slices.Reverse of a palette in memory of the call's own. -/
import Derived.Test.YtbehpaclnpildaaQ
import Derived.RegionTactic
import Derived.BigRegion
import Derived.Laws.IdiomCopy
namespace Go.Proofs.Ytbehpaclnpildaa
open Go.ChangeShapes Go.WideShapes Go.ChangeAt Go.RowKit Plain
set_option linter.unusedVariables false
/-- In block g, from its head on, lie n colors that may be written. -/
def RowAt (w : World) (g n : Nat) (f : Nat → Col) : Prop := ∀ k, k < n → ColAt w g (k * 5) (f k) ∧ ∀ j, j < 5 → w.frozen? ⟨g, k * 5 + j, none⟩ = false
theorem RowAt.drew {w : World} {g n : Nat} {f : Nat → Col} (h : RowAt w g n f) : RowAt w.drew g n f := h
theorem RowAt.set {w : World} {g n q : Nat} {f : Nat → Col} (h : RowAt w g n f) (hq : q < n) (x : Col) : RowAt (w.setCells g (q * 5) (cl x)) g n (fun k => if k = q then x else f k) := by
  intro k hk
  refine ⟨?_, fun j hj => by rw [World.frozen?_setCells]; exact (h k hk).2 j hj⟩
  by_cases e : k = q
  · subst e
    have he : (fun k' => if k' = k then x else f k') k = x := if_pos rfl
    rw [he]
    obtain ⟨⟨c0, c1, c2, c3, c4⟩, _⟩ := h k hk
    have hs : ∀ j, j < (cl x).length → (w.cell? ⟨g, k * 5 + j, none⟩).isSome = true := fun j hj => by
      match j, hj with
      | 0, _ => show (w.cell? ⟨g, k * 5, none⟩).isSome = true; rw [c0]; rfl
      | 1, _ => rw [c1]; rfl
      | 2, _ => rw [c2]; rfl
      | 3, _ => rw [c3]; rfl
      | 4, _ => rw [c4]; rfl
      | n + 5, hj => exact absurd hj (by show ¬ n + 5 < 5; omega)
    have hin := World.cell?_setCells_in g (cl x) (k * 5) w hs
    exact ⟨hin 0 (by show 0 < 5; omega), hin 1 (by show 1 < 5; omega), hin 2 (by show 2 < 5; omega), hin 3 (by show 3 < 5; omega), hin 4 (by show 4 < 5; omega)⟩
  · have he : (fun k' => if k' = q then x else f k') k = f k := if_neg e
    rw [he]
    have ho : ∀ j, j < 5 → (w.setCells g (q * 5) (cl x)).cell? ⟨g, k * 5 + j, none⟩ = w.cell? ⟨g, k * 5 + j, none⟩ := fun j hj => World.cell?_setCells_out g (cl x) (q * 5) w ⟨g, k * 5 + j, none⟩ (fun _ _ => by show k * 5 + j < q * 5 ∨ q * 5 + 5 ≤ k * 5 + j; omega)
    obtain ⟨⟨c0, c1, c2, c3, c4⟩, _⟩ := h k hk
    exact ⟨(ho 0 (by omega)).trans c0, (ho 1 (by omega)).trans c1, (ho 2 (by omega)).trans c2, (ho 3 (by omega)).trans c3, (ho 4 (by omega)).trans c4⟩
theorem RowAt.congr {w : World} {g n : Nat} {f f' : Nat → Col} (h : RowAt w g n f) (he : ∀ k, k < n → f' k = f k) : RowAt w g n f' := fun k hk => by rw [he k hk]; exact h k hk
/-- What the first q exchanges make of f. -/
def revTo (n : Nat) (f : Nat → Col) (q : Nat) : Nat → Col := fun k => if k < q ∨ n - q ≤ k then f (n - 1 - k) else f k
theorem revTo_zero (n : Nat) (f : Nat → Col) (k : Nat) (hk : k < n) : revTo n f 0 k = f k := if_neg (by omega)
theorem revTo_end (n q : Nat) (f : Nat → Col) (h1 : 2 * q ≤ n) (h2 : n ≤ 2 * q + 1) (k : Nat) (hk : k < n) : revTo n f q k = f (n - 1 - k) := by
  unfold revTo
  split
  · rfl
  · rw [show n - 1 - k = k by omega]
theorem revTo_succ (n q r : Nat) (f : Nat → Col) (hr : q + r + 1 = n) (hq : q < r) (k : Nat) (hk : k < n) :
    revTo n f (q + 1) k = if k = r then revTo n f q q else (if k = q then revTo n f q r else revTo n f q k) := by
  have eq : revTo n f q q = f q := if_neg (by omega)
  have er : revTo n f q r = f r := if_neg (by omega)
  rw [eq, er]
  by_cases h1 : k = r
  · rw [if_pos h1]
    show (if _ then _ else _) = _
    rw [if_pos (by omega), show n - 1 - k = q by omega]
  · rw [if_neg h1]
    by_cases h2 : k = q
    · rw [if_pos h2]
      show (if _ then _ else _) = _
      rw [if_pos (by omega), show n - 1 - k = r by omega]
    · rw [if_neg h2]
      show (if _ then _ else _) = (if _ then _ else _)
      by_cases h3 : k < q ∨ n - q ≤ k
      · rw [if_pos h3, if_pos (by omega)]
      · rw [if_neg h3, if_neg (by omega)]
theorem Below.setCells5 {B : Nat} {a w : World} {g o : Nat} {x : Col} (h : Below B a w) (hg : B ≤ g) : Below B a (w.setCells g o (cl x)) :=
  ((((h.setCell (p := ⟨g, o, none⟩) hg _).setCell (p := ⟨g, o + 1, none⟩) hg _).setCell (p := ⟨g, o + 1 + 1, none⟩) hg _).setCell (p := ⟨g, o + 1 + 1 + 1, none⟩) hg _).setCell (p := ⟨g, o + 1 + 1 + 1 + 1, none⟩) hg _

set_option maxHeartbeats 4000000 in
theorem slicesReverse (base g n cp : Nat) (f : Nat → Col) (w : World) (hg : base ≤ g) (h : RowAt w g n f) (hm : n ≤ 2147483648) :
    Calls Try.prog 21 #[.slice (some ⟨g, 0, none⟩) n cp] w fun e w' => e = .returned (.tuple #[]) ∧ RowAt w' g n (fun k => f (n - 1 - k)) ∧ Below base w w' := by
  have H := Lib.hid h
  have HG := Lib.hid hg
  clear h hg
  go_enter Try.func21, Try.ntmps21
  go_wp2
  go_loopw [2, 3] (fun i j wr => ∃ q : Nat, i = .int .i64 q ∧ j = .int .i64 ((n : Int) - 1 - q) ∧ 2 * q ≤ n ∧ RowAt wr g n (revTo n f q) ∧ Below base w wr) (fun i _ _ => n - (intOf i).toNat)
  case atStart => exact ⟨0, rfl, by go_num, Nat.zero_le _, H.out.congr (revTo_zero n f), Below.refl _ _⟩
  case round =>
    obtain ⟨q, rfl, rfl, hq, hR, hB⟩ := hrel
    by_cases hlt : (q : Int) < (n : Int) - 1 - q
    · obtain ⟨r, hr⟩ : ∃ r : Nat, (n : Int) - 1 - q = r := ⟨((n : Int) - 1 - q).toNat, by omega⟩
      rw [hr] at hlt ⊢
      have hqr : q < r := by omega
      have hrn : r < n := by omega
      have hqn : q < n := by omega
      have HR := Lib.hid hR
      have HB := Lib.hid hB
      have HE := Lib.hid hr
      obtain ⟨⟨a0, a1, a2, a3, a4⟩, af⟩ := hR q hqn
      obtain ⟨⟨b0, b1, b2, b3, b4⟩, bf⟩ := hR r hrn
      have f0 := af 0 (by omega)
      have f1 := af 1 (by omega)
      have f2 := af 2 (by omega)
      have f3 := af 3 (by omega)
      have f4 := af 4 (by omega)
      have g0 := bf 0 (by omega)
      have g1 := bf 1 (by omega)
      have g2 := bf 2 (by omega)
      have g3 := bf 3 (by omega)
      have g4 := bf 4 (by omega)
      rw [Nat.add_zero] at f0 g0
      clear af bf hR hB hr
      obtain ⟨xq, hxq⟩ : ∃ x, x = revTo n f q q := ⟨_, rfl⟩
      obtain ⟨xr, hxr⟩ : ∃ x, x = revTo n f q r := ⟨_, rfl⟩
      rw [← hxq] at a0 a1 a2 a3 a4
      rw [← hxr] at b0 b1 b2 b3 b4
      have HX := Lib.hid (And.intro hxq hxr)
      clear hxq hxr
      go_wp2_with fail
      go_region
      go_wp2_with fail
      go_roundw
      case rel =>
        refine ⟨q + 1, by go_num, ?_, by have := HE.out; omega, ?_, ?_⟩
        · exact congrArg (Value.int .i64) (by have := HE.out; omega)
        · have h2 := (HR.out.set hqn xr).set hrn xq
          refine RowAt.congr (RowAt.drew h2) (fun k hk => ?_)
          rw [revTo_succ n q r f (by have := HE.out; omega) hqr k hk, ← HX.out.1, ← HX.out.2]
        · exact (Below.setCells5 (Below.setCells5 HB.out HG.out) HG.out).drew
      case measure => simp [intOf]; omega
    · have e2 : n ≤ 2 * q + 1 := by omega
      have HR := Lib.hid hR
      clear hR
      go_wp2_with fail
      go_end0
      exact ⟨rfl, HR.out.congr (fun k hk => (revTo_end n q f hq e2 k hk).symm), hB⟩
end Go.Proofs.Ytbehpaclnpildaa
