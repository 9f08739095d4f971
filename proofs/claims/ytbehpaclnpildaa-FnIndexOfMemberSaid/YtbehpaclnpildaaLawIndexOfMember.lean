/- A color of a palette of colors whose components have 8 bits is found: FnIndexOfMember returns true for every palette and every number. No conditions. -/
import Derived.Test.YtbehpaclnpildaaLawPal
import Derived.Deep.DeepCutAuto
import Derived.Deep.RegionHeld3
import Derived.Deep.QuietTactic
import Derived.BigQuiet
namespace Go.Proofs.Ytbehpaclnpildaa
open Go.ChangeShapes Go.WideShapes Go.ChangeAt Go.RowKit Plain
set_option linter.unusedVariables false
theorem FnIndexOfMember_empty (a0 : Option Addr) (cap : Nat) (k : Int) (w : World) (hk0 : -9223372036854775808 ≤ k) (hk1 : k ≤ 9223372036854775807) : Calls Try.prog 5 #[.slice a0 0 cap, .int .i64 k] w fun e w' => e = .returned (.bool true) ∧ Below w.heap.size w w' := by
  by_cases h : k < 0
  all_goals
    go_enter Try.func5, Try.ntmps5
    go_wp2_with fail
    go_ret
    exact ⟨rfl, Below.refl _ _⟩
theorem FnIndexOfMember_long (B off len cap : Nat) (k : Int) (w : World) (hl : 2147483647 < len) (hm : len ≤ 9223372036854775807) : Calls Try.prog 5 #[.slice (some ⟨B, off, none⟩) len cap, .int .i64 k] w fun e w' => e = .returned (.bool true) ∧ Below w.heap.size w w' := by
  go_enter Try.func5, Try.ntmps5
  go_wp2_with fail
  go_ret
  exact ⟨rfl, Below.refl _ _⟩
theorem FnIndexOfMember_below (B off len cap : Nat) (k : Int) (w : World) (hm : len ≤ 2147483647) (hk : k < 0) : Calls Try.prog 5 #[.slice (some ⟨B, off, none⟩) len cap, .int .i64 k] w fun e w' => e = .returned (.bool true) ∧ Below w.heap.size w w' := by
  go_enter Try.func5, Try.ntmps5
  go_wp2_with fail
  go_ret
  exact ⟨rfl, Below.refl _ _⟩
theorem FnIndexOfMember_above (B off len cap q : Nat) (w : World) (hm : len ≤ 2147483647) (hk : len ≤ q) : Calls Try.prog 5 #[.slice (some ⟨B, off, none⟩) len cap, .int .i64 q] w fun e w' => e = .returned (.bool true) ∧ Below w.heap.size w w' := by
  go_enter Try.func5, Try.ntmps5
  go_wp2_with fail
  go_ret
  exact ⟨rfl, Below.refl _ _⟩
theorem FnIndexOfMember_not (B off len cap : Nat) (ps : List Col) (q : Nat) (x : Col) (w : World) (hp : PalAt w B off ps) (hlen : ps.length = len) (hpos : 0 < len) (hm : len ≤ 2147483647) (hx : ps[q]? = some x) (hn : ¬ (x.small ∧ ∀ x ∈ ps, x.small)) : Calls Try.prog 5 #[.slice (some ⟨B, off, none⟩) len cap, .int .i64 q] w fun e w' => e = .returned (.bool true) ∧ Below w.heap.size w w' := by
  have N := Lib.hid (fun w hp => small_no B off len cap ps x w hp hlen hpos hm (hp q x hx).2 hn)
  have hq : q < len := by rw [← hlen]; exact (List.getElem?_eq_some_iff.1 hx).1
  obtain ⟨d0, d1, d2, d3, d4⟩ := hp.cells hx
  have HP := Lib.hid hp
  clear hp hn hlen hx
  go_enter Try.func5, Try.ntmps5
  go_wp2_with fail
  refine (N.out _ HP.out).mono ?_
  rintro e w1 ⟨rfl, b1⟩
  go_wp2_with fail
  go_ret
  exact ⟨rfl, b1⟩
set_option maxHeartbeats 2000000 in
theorem FnIndexOfMember_main (B off len cap : Nat) (ps : List Col) (q : Nat) (x : Col) (w : World) (hp : PalAt w B off ps) (hlen : ps.length = len) (hpos : 0 < len) (hm : len ≤ 2147483647) (hx : ps[q]? = some x) (hv : ∀ x ∈ ps, x.small) : Calls Try.prog 5 #[.slice (some ⟨B, off, none⟩) len cap, .int .i64 q] w fun e w' => e = .returned (.bool true) ∧ Below w.heap.size w w' := by
  have hxm : x ∈ ps := List.mem_of_getElem? hx
  have hvv : ∀ x ∈ ps, x.valid := fun x hx => (hv x hx).valid
  obtain ⟨z, hz, _⟩ := best_least (hvv x hxm) hvv (by omega)
  have M := Lib.hid (best_member hv hxm hz)
  have hb : best x ps < len := by rw [← hlen]; exact best_lt (hvv x hxm) hvv (by omega)
  have hql : q < len := by rw [← hlen]; exact (List.getElem?_eq_some_iff.1 hx).1
  have Y := Lib.hid (fun w hp => small_yes B off len cap ps x w hp hlen hpos hm (hv x hxm) hv)
  have I := Lib.hid (fun w hp => implIndex B off len cap ps x w hp hvv (hvv x hxm) hlen hpos (by omega))
  have V := Lib.hid (fun w => implValues x.k x.a x.b x.c x.d w (hvv x hxm))
  have V2 := Lib.hid (fun w => implValues z.k z.a z.b z.c z.d w (hvv z (List.mem_of_getElem? hz)))
  obtain ⟨p0, p1, p2, p3, p4⟩ := hp.cells hx
  obtain ⟨r0, r1, r2, r3, r4⟩ := hp.cells hz
  have d0 : ∀ w', Since w w' → w'.cell? ⟨B, off + q * 5, none⟩ = some (.int .i64 x.k) := fun w' h => cell_later h.below p0
  have d1 : ∀ w', Since w w' → w'.cell? ⟨B, off + q * 5 + 1, none⟩ = some (.int .u16 x.a) := fun w' h => cell_later h.below p1
  have d2 : ∀ w', Since w w' → w'.cell? ⟨B, off + q * 5 + 2, none⟩ = some (.int .u16 x.b) := fun w' h => cell_later h.below p2
  have d3 : ∀ w', Since w w' → w'.cell? ⟨B, off + q * 5 + 3, none⟩ = some (.int .u16 x.c) := fun w' h => cell_later h.below p3
  have d4 : ∀ w', Since w w' → w'.cell? ⟨B, off + q * 5 + 4, none⟩ = some (.int .u16 x.d) := fun w' h => cell_later h.below p4
  have e0 : ∀ w', Since w w' → w'.cell? ⟨B, off + best x ps * 5, none⟩ = some (.int .i64 z.k) := fun w' h => cell_later h.below r0
  have e1 : ∀ w', Since w w' → w'.cell? ⟨B, off + best x ps * 5 + 1, none⟩ = some (.int .u16 z.a) := fun w' h => cell_later h.below r1
  have e2 : ∀ w', Since w w' → w'.cell? ⟨B, off + best x ps * 5 + 2, none⟩ = some (.int .u16 z.b) := fun w' h => cell_later h.below r2
  have e3 : ∀ w', Since w w' → w'.cell? ⟨B, off + best x ps * 5 + 3, none⟩ = some (.int .u16 z.c) := fun w' h => cell_later h.below r3
  have e4 : ∀ w', Since w w' → w'.cell? ⟨B, off + best x ps * 5 + 4, none⟩ = some (.int .u16 z.d) := fun w' h => cell_later h.below r4
  have HP := Lib.hid hp
  have hq := eqArr4
  have n0 := Since.refl w
  clear hp hv hlen hz hvv hx hxm p0 p1 p2 p3 p4 r0 r1 r2 r3 r4
  go_enter Try.func5, Try.ntmps5
  go_wp2_with fail
  refine (Y.out _ HP.out).mono ?_
  rintro e w1 ⟨rfl, b1⟩
  have n1 : Since w w1 := b1
  clear b1
  go_wp2_with fail
  refine (I.out _ (HP.out.call n1.below)).mono ?_
  rintro e w2 ⟨rfl, b2⟩
  have n2 : Since w w2 := n1.call b2
  clear b2 n1 n0
  go_wp2_with fail
  go_region_held3 (fun w' => Since w w')
    (first | with_reducible assumption | with_reducible exact Since.drew (by with_reducible assumption) | with_reducible exact Since.call (by with_reducible assumption) (by with_reducible assumption))
    (first | (go_at_call 13; (with_reducible refine (V.out _).mono ?_); rintro e w' ⟨rfl, hb⟩) | (go_at_call 13; (with_reducible refine (V2.out _).mono ?_); rintro e w' ⟨rfl, hb⟩))
  rename_i hH
  obtain ⟨m0, m1, m2, m3⟩ := M.out
  go_wp2
  go_ret
  refine ⟨ret_bool ?_, hH.below⟩
  simp [m0, m1, m2, m3]
theorem FnIndexOfMember_walk (w : World) (v : Value) (k : Int) (hp : IsPal w v) (hk0 : -9223372036854775808 ≤ k) (hk1 : k ≤ 9223372036854775807) : Calls Try.prog 5 #[v, .int .i64 k] w fun e w' => e = .returned (.bool true) ∧ Below w.heap.size w w' := by
  rcases hp with ⟨a0, cap, rfl⟩ | ⟨B, off, len, cap, ps, rfl, hlen, hpos, hL, hp⟩
  · exact FnIndexOfMember_empty a0 cap k w hk0 hk1
  by_cases hm : len ≤ 2147483647
  rotate_left
  · exact FnIndexOfMember_long B off len cap k w (by omega) hL
  by_cases hk : k < 0
  · exact FnIndexOfMember_below B off len cap k w hm hk
  obtain ⟨q, rfl⟩ : ∃ q : Nat, k = q := ⟨k.toNat, by omega⟩
  by_cases hql : q < len
  rotate_left
  · exact FnIndexOfMember_above B off len cap q w hm (by omega)
  obtain ⟨x, hx⟩ : ∃ x, ps[q]? = some x := ⟨_, List.getElem?_eq_getElem (by omega)⟩
  by_cases hn : x.small ∧ ∀ x ∈ ps, x.small
  · exact FnIndexOfMember_main B off len cap ps q x w hp hlen hpos hm hx hn.2
  · exact FnIndexOfMember_not B off len cap ps q x w hp hlen hpos hm hx hn
/-! ### The row's step, for FnIndexOfMember. -/
namespace FnIndexOfMemberFrame
open Go.ChangeShapes Go.WideShapes Go.ChangeAt Go.RowKit
theorem own : ownKnob Try.prog.godebug = none := by kernel_rfl
theorem laidOut : laidOutB Try.prog = true := by kernel_rfl
set_option maxRecDepth 100000 in
theorem lifted (os : Os) (started : os.Started) (H : Type) (enc : TypeId × Value → H) :
    ReturnsInHanded {} Try.checked os 5 .any (Rows.fnIndexOfMemberSpec.pre6 enc Try.prog Try.f5 Rows.fnIndexOfMemberRow.domain false) (Rows.fnIndexOfMemberSpec.post enc Try.prog Try.f5 false true false false) := by
  refine returnsInHanded_of_change (C := Try.checked) own started (by kernel_rfl) Try.func5
    (ChangeSpec.witness6 (enc := enc) (C := Try.checked) false ⟨#[], #[.slice none 0 0, .int .i64 0], []⟩ 8 (by kernel_rfl) (by kernel_rfl) (by kernel_rfl) (by kernel_rfl)) ?_
  intro W base args ds gs before hval0 hW hcnd _
  have hval : ∀ (j : Nat) t v, Try.f5.params[j]? = some t → args[j]? = some v → Value.okWide Try.prog W .any base t v := hval0
  have hW' := hW
  obtain ⟨p, q, hA0, hV, rfl, hfz, hnd⟩ := hW
  have hA : DataW.TrodAll enc Try.prog W 0 (fun _ => true) true Try.f5.params.toList args.toList ds p := hA0
  rw [Try.params5] at hA hval
  obtain ⟨v0, vs0, d0, ds0, p0, q0, hargs, rfl, rfl, h0, r0⟩ := trodAll_cons hA
  obtain ⟨v1, vs1, d1, ds1, p1, q1, rfl, rfl, rfl, h1, r1⟩ := trodAll_cons r0
  obtain ⟨rfl, rfl, rfl⟩ := trodAll_nil r1
  obtain rfl : args = #[v0, v1] := by cases args; simp_all
  obtain ⟨rfl, rfl⟩ := trodVars_none hV
  have k0 := h0
  have lt0 : ∀ x ∈ p0, x.block < W.heap.size := by obtain ⟨m, hm⟩ := k0; exact DataW.trod_lt m _ _ _ hm
  have pal0 := open_palV (hval 0 22 v0 rfl rfl) h0
  obtain ⟨a1, rfl, rfl, rfl, w1⟩ := open_int Try.underlying3 (hval 1 3 v1 rfl rfl) h1
  have b1 := bounds_i64 w1
  clear hA0 hval0
  refine (FnIndexOfMember_walk W v0 a1 pal0 b1.1 b1.2).mono fun e W' ⟨he, bel⟩ => ?_
  subst he
  exact ⟨_, rfl, _, _, _, [], _, [], hW', trodAll_mk1 (shut_bool Try.underlying4 _), (trodAll_cons_mk (Below.trod laidOut (by kernel_rfl) (of_decide_eq_true (by kernel_rfl)) k0 bel lt0) (trodAll_cons_mk (shut_int Try.underlying3 w1) trodAll_mk0)), rfl, bel.frame _, fun h => by cases h⟩
theorem over : Rows.fnIndexOfMemberRow.holds Try.pinned (OpenSpec.ofChange Rows.fnIndexOfMemberSpec) :=
  OpenClaim.holds_of_wide 5 Try.f5 rfl rfl rfl rfl rfl rfl rfl ⟨rfl, rfl, rfl, rfl, rfl⟩ rfl rfl rfl rfl rfl (by kernel_rfl) Try.func5 (by kernel_rfl)
    (of_decide_eq_true (by kernel_rfl)) (by unfold Func.isWrapper; first | (rw [if_pos (by decide +kernel)]; kernel_rfl) | (rw [if_neg (by decide +kernel)]; exact ⟨rfl, rfl⟩))
    (fun os started H enc _ => lifted os started H enc)
end FnIndexOfMemberFrame
/-- THE STATEMENT. -/
theorem FnIndexOfMember_holds : Rows.FnIndexOfMemberSaid := FnIndexOfMemberFrame.over
#print axioms FnIndexOfMember_holds
end Go.Proofs.Ytbehpaclnpildaa
