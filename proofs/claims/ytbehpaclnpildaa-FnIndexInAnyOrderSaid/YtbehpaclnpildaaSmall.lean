/- The contract of the reference's Small. -/
import Derived.Test.YtbehpaclnpildaaValid
import Derived.WalkLawsBesides
import Derived.Lib.Hide
namespace Go.Proofs.Ytbehpaclnpildaa
namespace Plain
/-- Valid, of 8 bits a component, and not scaled by alpha in its values. -/
def small (k a b c d : Int) : Prop := valid k a b c d ∧ (k = 0 ∨ k = 4 ∨ k = 6)
end Plain
open Go.ChangeShapes Go.WideShapes Go.ChangeAt Go.RowKit Plain
set_option linter.unusedVariables false

set_option maxHeartbeats 1000000 in
theorem specSmall_yes (k a b c d : Int) (w : World) (h : small k a b c d) : Calls Try.prog 19 #[.agg #[.int .i64 k, .int .u16 a, .int .u16 b, .int .u16 c, .int .u16 d]] w fun e w' => e = .returned (.bool true) ∧ Below w.heap.size w w' := by
  obtain ⟨hv, hk⟩ := h
  have V := Lib.hid (fun w => specValid_yes k a b c d w hv)
  clear hv
  rcases hk with rfl | rfl | rfl
  all_goals
    go_enter Try.func19, Try.ntmps19
    go_wp2_with fail
    refine (V.out _).mono ?_
    rintro e w1 ⟨rfl, b1⟩
    obtain ⟨hc, hf⟩ := bcell b1
    go_wp2_with fail
    go_ret
    exact ⟨rfl, later b1 (laterAlloc (Below.refl _ _) _)⟩

set_option maxHeartbeats 1000000 in
theorem specSmall_no (k a b c d : Int) (w : World) (ha0 : 0 ≤ a) (ha1 : a ≤ 65535) (hb0 : 0 ≤ b) (hb1 : b ≤ 65535) (hc0 : 0 ≤ c) (hc1 : c ≤ 65535) (hd0 : 0 ≤ d) (hd1 : d ≤ 65535) (h : ¬ small k a b c d) : Calls Try.prog 19 #[.agg #[.int .i64 k, .int .u16 a, .int .u16 b, .int .u16 c, .int .u16 d]] w fun e w' => e = .returned (.bool false) ∧ Below w.heap.size w w' := by
  by_cases hv : valid k a b c d
  · have hk : ¬ (k = 0 ∨ k = 4 ∨ k = 6) := fun hk => h ⟨hv, hk⟩
    have V := Lib.hid (fun w => specValid_yes k a b c d w hv)
    have e0 : (k == 0) = false := beq_eq_false_iff_ne.2 (by omega)
    have e4 : (k == 4) = false := beq_eq_false_iff_ne.2 (by omega)
    have e6 : (k == 6) = false := beq_eq_false_iff_ne.2 (by omega)
    clear h hv hk
    go_enter Try.func19, Try.ntmps19
    go_wp2_with fail
    refine (V.out _).mono ?_
    rintro e w1 ⟨rfl, b1⟩
    obtain ⟨hc, hf⟩ := bcell b1
    go_wp2_with fail
    go_ret
    exact ⟨rfl, later b1 (laterAlloc (Below.refl _ _) _)⟩
  · have V := Lib.hid (fun w => specValid_no k a b c d w ha0 ha1 hb0 hb1 hc0 hc1 hd0 hd1 hv)
    clear h hv
    go_enter Try.func19, Try.ntmps19
    go_wp2_with fail
    refine (V.out _).mono ?_
    rintro e w1 ⟨rfl, b1⟩
    go_wp2_with fail
    go_ret
    exact ⟨rfl, later b1 (laterAlloc (Below.refl _ _) _)⟩
end Go.Proofs.Ytbehpaclnpildaa
