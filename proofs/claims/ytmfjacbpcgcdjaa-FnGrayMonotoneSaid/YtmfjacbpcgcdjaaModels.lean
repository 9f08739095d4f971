/- The models: one of their own stays; of any other color they make what its values say. -/
import Derived.Test.YtmfjacbpcgcdjaaColor
import Derived.WalkKit
import Derived.ProofKit
import Derived.OpenShut
import Derived.Outline
import Derived.WalkLawsBesides
import Derived.LoopN
import Derived.Lib.Hide
import Derived.Test.YtmfjacbpcgcdjaaData
import Derived.Test.YtmfjacbpcgcdjaaPlainConv
import Derived.Test.YtmfjacbpcgcdjaaCmyk
import Derived.Test.YtmfjacbpcgcdjaaYcc
namespace Go.Proofs.Ytmfjacbpcgcdjaa
open Go.ChangeShapes Go.WideShapes Go.ChangeAt Go.RowKit Plain
set_option linter.unusedVariables false

theorem if1 {t : TypeId} {k : IntKind} {a a' : Int} (h1 : a = a') : Ending.returned (.iface t (.agg #[.int k a])) = Ending.returned (.iface t (.agg #[.int k a'])) := by rw [h1]
theorem if4 {t : TypeId} {k : IntKind} {a b c d a' b' c' d' : Int} (h1 : a = a') (h2 : b = b') (h3 : c = c') (h4 : d = d') : Ending.returned (.iface t (.agg #[.int k a, .int k b, .int k c, .int k d])) = Ending.returned (.iface t (.agg #[.int k a', .int k b', .int k c', .int k d'])) := by rw [h1, h2, h3, h4]

set_option maxHeartbeats 1000000 in
theorem own_0 (a b c d : Int) (w : World) (ha0 : 0 ≤ a) (ha1 : a ≤ 255) (hb0 : 0 ≤ b) (hb1 : b ≤ 255) (hc0 : 0 ≤ c) (hc1 : c ≤ 255) (hd0 : 0 ≤ d) (hd1 : d ≤ 255) :
    Calls Try.prog 48 #[.iface 64 (.agg #[.int .u8 a, .int .u8 b, .int .u8 c, .int .u8 d])] w fun e w' => e = .returned (.iface 64 (.agg #[.int .u8 a, .int .u8 b, .int .u8 c, .int .u8 d])) ∧ Below w.heap.size w w' := by
  have y := asYes_0 (.agg #[.int .u8 a, .int .u8 b, .int .u8 c, .int .u8 d])
  go_enter Try.func48, Try.ntmps48
  go_wp2_with fail
  go_ret
  exact ⟨rfl, by repeat (first | exact Below.refl _ _ | refine laterAlloc ?_ _ | refine Below.drew ?_ | refine below_drewN ?_ _ | refine later (by assumption) ?_)⟩

set_option maxHeartbeats 2000000 in
theorem of_0 (u : TypeId) (v : Value) (r g b a : Int) (w : World) (hs : Shows u v r g b a) (hu : u ≠ 64) :
    Calls Try.prog 48 #[.iface u v] w fun e w' => e = .returned (.iface 64 (.agg #[.int .u8 (c0 0 r g b a), .int .u8 (c1 0 r g b a), .int .u8 (c2 0 r g b a), .int .u8 (c3 0 r g b a)])) ∧ Below w.heap.size w w' := by
  obtain ⟨⟨hr0, hr1, hg0, hg1, hb0, hb1, ha0, ha1⟩, f, x, hm, hn, hc⟩ := hs
  have HC := Lib.hid hc
  clear hc
  have y := asNo_0 u v hu
  go_enter Try.func48, Try.ntmps48
  go_wp2_with fail
  refine (HC.out _).mono ?_
  rintro e w1 ⟨rfl, b1⟩
  go_wp2_with fail
  go_ret
  exact ⟨rfl, by repeat (first | exact Below.refl _ _ | refine laterAlloc ?_ _ | refine Below.drew ?_ | refine below_drewN ?_ _ | refine later (by assumption) ?_)⟩

set_option maxHeartbeats 1000000 in
theorem own_1 (a b c d : Int) (w : World) (ha0 : 0 ≤ a) (ha1 : a ≤ 65535) (hb0 : 0 ≤ b) (hb1 : b ≤ 65535) (hc0 : 0 ≤ c) (hc1 : c ≤ 65535) (hd0 : 0 ≤ d) (hd1 : d ≤ 65535) :
    Calls Try.prog 49 #[.iface 66 (.agg #[.int .u16 a, .int .u16 b, .int .u16 c, .int .u16 d])] w fun e w' => e = .returned (.iface 66 (.agg #[.int .u16 a, .int .u16 b, .int .u16 c, .int .u16 d])) ∧ Below w.heap.size w w' := by
  have y := asYes_1 (.agg #[.int .u16 a, .int .u16 b, .int .u16 c, .int .u16 d])
  go_enter Try.func49, Try.ntmps49
  go_wp2_with fail
  go_ret
  exact ⟨rfl, by repeat (first | exact Below.refl _ _ | refine laterAlloc ?_ _ | refine Below.drew ?_ | refine below_drewN ?_ _ | refine later (by assumption) ?_)⟩

set_option maxHeartbeats 2000000 in
theorem of_1 (u : TypeId) (v : Value) (r g b a : Int) (w : World) (hs : Shows u v r g b a) (hu : u ≠ 66) :
    Calls Try.prog 49 #[.iface u v] w fun e w' => e = .returned (.iface 66 (.agg #[.int .u16 (c0 1 r g b a), .int .u16 (c1 1 r g b a), .int .u16 (c2 1 r g b a), .int .u16 (c3 1 r g b a)])) ∧ Below w.heap.size w w' := by
  obtain ⟨⟨hr0, hr1, hg0, hg1, hb0, hb1, ha0, ha1⟩, f, x, hm, hn, hc⟩ := hs
  have HC := Lib.hid hc
  clear hc
  have y := asNo_1 u v hu
  go_enter Try.func49, Try.ntmps49
  go_wp2_with fail
  refine (HC.out _).mono ?_
  rintro e w1 ⟨rfl, b1⟩
  go_wp2_with fail
  go_ret
  exact ⟨rfl, by repeat (first | exact Below.refl _ _ | refine laterAlloc ?_ _ | refine Below.drew ?_ | refine below_drewN ?_ _ | refine later (by assumption) ?_)⟩

set_option maxHeartbeats 1000000 in
theorem own_2 (a b c d : Int) (w : World) (ha0 : 0 ≤ a) (ha1 : a ≤ 255) (hb0 : 0 ≤ b) (hb1 : b ≤ 255) (hc0 : 0 ≤ c) (hc1 : c ≤ 255) (hd0 : 0 ≤ d) (hd1 : d ≤ 255) :
    Calls Try.prog 50 #[.iface 67 (.agg #[.int .u8 a, .int .u8 b, .int .u8 c, .int .u8 d])] w fun e w' => e = .returned (.iface 67 (.agg #[.int .u8 a, .int .u8 b, .int .u8 c, .int .u8 d])) ∧ Below w.heap.size w w' := by
  have y := asYes_2 (.agg #[.int .u8 a, .int .u8 b, .int .u8 c, .int .u8 d])
  go_enter Try.func50, Try.ntmps50
  go_wp2_with fail
  go_ret
  exact ⟨rfl, by repeat (first | exact Below.refl _ _ | refine laterAlloc ?_ _ | refine Below.drew ?_ | refine below_drewN ?_ _ | refine later (by assumption) ?_)⟩

set_option maxHeartbeats 2000000 in
theorem of_2 (u : TypeId) (v : Value) (r g b a : Int) (w : World) (hs : Shows u v r g b a) (hu : u ≠ 67) :
    Calls Try.prog 50 #[.iface u v] w fun e w' => e = .returned (.iface 67 (.agg #[.int .u8 (c0 2 r g b a), .int .u8 (c1 2 r g b a), .int .u8 (c2 2 r g b a), .int .u8 (c3 2 r g b a)])) ∧ Below w.heap.size w w' := by
  obtain ⟨⟨hr0, hr1, hg0, hg1, hb0, hb1, ha0, ha1⟩, f, x, hm, hn, hc⟩ := hs
  have HC := Lib.hid hc
  clear hc
  have y := asNo_2 u v hu
  by_cases hf : a = 65535
  · subst hf
    go_enter Try.func50, Try.ntmps50
    go_wp2_with fail
    refine (HC.out _).mono ?_
    rintro e w1 ⟨rfl, b1⟩
    go_wp2_with fail
    go_ret
    refine ⟨if4 ?_ ?_ ?_ ?_, by repeat (first | exact Below.refl _ _ | refine laterAlloc ?_ _ | refine Below.drew ?_ | refine below_drewN ?_ _ | refine later (by assumption) ?_)⟩
    all_goals simp only [c0, c1, c2, c3, if_true, if_false, Int.reduceEq, un_full]
    all_goals first | rfl | decide
  by_cases hz : a = 0
  · subst hz
    obtain ⟨rfl, rfl, rfl⟩ : r = 0 ∧ g = 0 ∧ b = 0 := by omega
    go_enter Try.func50, Try.ntmps50
    go_wp2_with fail
    refine (HC.out _).mono ?_
    rintro e w1 ⟨rfl, b1⟩
    go_wp2_with fail
    go_ret
    exact ⟨rfl, by repeat (first | exact Below.refl _ _ | refine laterAlloc ?_ _ | refine Below.drew ?_ | refine below_drewN ?_ _ | refine later (by assumption) ?_)⟩
  have hp : 1 ≤ a := by omega
  have hl : a ≤ 65534 := by omega
  have u1 := un_range hr0 hr1
  have u2 := un_range hg0 hg1
  have u3 := un_range hb0 hb1
  have e1 : un r a = r * 65535 / a := by unfold un; rw [if_neg hz]
  have e2 : un g a = g * 65535 / a := by unfold un; rw [if_neg hz]
  have e3 : un b a = b * 65535 / a := by unfold un; rw [if_neg hz]
  rw [e1] at u1; rw [e2] at u2; rw [e3] at u3
  obtain ⟨v1, v2⟩ := u1
  obtain ⟨v3, v4⟩ := u2
  obtain ⟨v5, v6⟩ := u3
  have E1 := Lib.hid e1
  have E2 := Lib.hid e2
  have E3 := Lib.hid e3
  clear hf hz e1 e2 e3
  go_enter Try.func50, Try.ntmps50
  go_wp2_with fail
  refine (HC.out _).mono ?_
  rintro e w1 ⟨rfl, b1⟩
  go_wp2_with fail
  go_ret
  refine ⟨if4 ?_ ?_ ?_ ?_, by repeat (first | exact Below.refl _ _ | refine laterAlloc ?_ _ | refine Below.drew ?_ | refine below_drewN ?_ _ | refine later (by assumption) ?_)⟩
  all_goals simp only [c0, c1, c2, c3, if_true, if_false, Int.reduceEq, E1.out, E2.out, E3.out]

set_option maxHeartbeats 1000000 in
theorem own_3 (a b c d : Int) (w : World) (ha0 : 0 ≤ a) (ha1 : a ≤ 65535) (hb0 : 0 ≤ b) (hb1 : b ≤ 65535) (hc0 : 0 ≤ c) (hc1 : c ≤ 65535) (hd0 : 0 ≤ d) (hd1 : d ≤ 65535) :
    Calls Try.prog 51 #[.iface 68 (.agg #[.int .u16 a, .int .u16 b, .int .u16 c, .int .u16 d])] w fun e w' => e = .returned (.iface 68 (.agg #[.int .u16 a, .int .u16 b, .int .u16 c, .int .u16 d])) ∧ Below w.heap.size w w' := by
  have y := asYes_3 (.agg #[.int .u16 a, .int .u16 b, .int .u16 c, .int .u16 d])
  go_enter Try.func51, Try.ntmps51
  go_wp2_with fail
  go_ret
  exact ⟨rfl, by repeat (first | exact Below.refl _ _ | refine laterAlloc ?_ _ | refine Below.drew ?_ | refine below_drewN ?_ _ | refine later (by assumption) ?_)⟩

set_option maxHeartbeats 2000000 in
theorem of_3 (u : TypeId) (v : Value) (r g b a : Int) (w : World) (hs : Shows u v r g b a) (hu : u ≠ 68) :
    Calls Try.prog 51 #[.iface u v] w fun e w' => e = .returned (.iface 68 (.agg #[.int .u16 (c0 3 r g b a), .int .u16 (c1 3 r g b a), .int .u16 (c2 3 r g b a), .int .u16 (c3 3 r g b a)])) ∧ Below w.heap.size w w' := by
  obtain ⟨⟨hr0, hr1, hg0, hg1, hb0, hb1, ha0, ha1⟩, f, x, hm, hn, hc⟩ := hs
  have HC := Lib.hid hc
  clear hc
  have y := asNo_3 u v hu
  by_cases hf : a = 65535
  · subst hf
    go_enter Try.func51, Try.ntmps51
    go_wp2_with fail
    refine (HC.out _).mono ?_
    rintro e w1 ⟨rfl, b1⟩
    go_wp2_with fail
    go_ret
    refine ⟨if4 ?_ ?_ ?_ ?_, by repeat (first | exact Below.refl _ _ | refine laterAlloc ?_ _ | refine Below.drew ?_ | refine below_drewN ?_ _ | refine later (by assumption) ?_)⟩
    all_goals simp only [c0, c1, c2, c3, if_true, if_false, Int.reduceEq, un_full]
    all_goals first | rfl | decide
  by_cases hz : a = 0
  · subst hz
    obtain ⟨rfl, rfl, rfl⟩ : r = 0 ∧ g = 0 ∧ b = 0 := by omega
    go_enter Try.func51, Try.ntmps51
    go_wp2_with fail
    refine (HC.out _).mono ?_
    rintro e w1 ⟨rfl, b1⟩
    go_wp2_with fail
    go_ret
    exact ⟨rfl, by repeat (first | exact Below.refl _ _ | refine laterAlloc ?_ _ | refine Below.drew ?_ | refine below_drewN ?_ _ | refine later (by assumption) ?_)⟩
  have hp : 1 ≤ a := by omega
  have hl : a ≤ 65534 := by omega
  have u1 := un_range hr0 hr1
  have u2 := un_range hg0 hg1
  have u3 := un_range hb0 hb1
  have e1 : un r a = r * 65535 / a := by unfold un; rw [if_neg hz]
  have e2 : un g a = g * 65535 / a := by unfold un; rw [if_neg hz]
  have e3 : un b a = b * 65535 / a := by unfold un; rw [if_neg hz]
  rw [e1] at u1; rw [e2] at u2; rw [e3] at u3
  obtain ⟨v1, v2⟩ := u1
  obtain ⟨v3, v4⟩ := u2
  obtain ⟨v5, v6⟩ := u3
  have E1 := Lib.hid e1
  have E2 := Lib.hid e2
  have E3 := Lib.hid e3
  clear hf hz e1 e2 e3
  go_enter Try.func51, Try.ntmps51
  go_wp2_with fail
  refine (HC.out _).mono ?_
  rintro e w1 ⟨rfl, b1⟩
  go_wp2_with fail
  go_ret
  refine ⟨if4 ?_ ?_ ?_ ?_, by repeat (first | exact Below.refl _ _ | refine laterAlloc ?_ _ | refine Below.drew ?_ | refine below_drewN ?_ _ | refine later (by assumption) ?_)⟩
  all_goals simp only [c0, c1, c2, c3, if_true, if_false, Int.reduceEq, E1.out, E2.out, E3.out]

set_option maxHeartbeats 1000000 in
theorem own_4 (a : Int) (w : World) (ha0 : 0 ≤ a) (ha1 : a ≤ 255) :
    Calls Try.prog 52 #[.iface 70 (.agg #[.int .u8 a])] w fun e w' => e = .returned (.iface 70 (.agg #[.int .u8 a])) ∧ Below w.heap.size w w' := by
  have y := asYes_4 (.agg #[.int .u8 a])
  go_enter Try.func52, Try.ntmps52
  go_wp2_with fail
  go_ret
  exact ⟨rfl, by repeat (first | exact Below.refl _ _ | refine laterAlloc ?_ _ | refine Below.drew ?_ | refine below_drewN ?_ _ | refine later (by assumption) ?_)⟩

set_option maxHeartbeats 2000000 in
theorem of_4 (u : TypeId) (v : Value) (r g b a : Int) (w : World) (hs : Shows u v r g b a) (hu : u ≠ 70) :
    Calls Try.prog 52 #[.iface u v] w fun e w' => e = .returned (.iface 70 (.agg #[.int .u8 (c0 4 r g b a)])) ∧ Below w.heap.size w w' := by
  obtain ⟨⟨hr0, hr1, hg0, hg1, hb0, hb1, ha0, ha1⟩, f, x, hm, hn, hc⟩ := hs
  have HC := Lib.hid hc
  clear hc
  have y := asNo_4 u v hu
  go_enter Try.func52, Try.ntmps52
  go_wp2_with fail
  refine (HC.out _).mono ?_
  rintro e w1 ⟨rfl, b1⟩
  go_wp2_with fail
  go_ret
  exact ⟨rfl, by repeat (first | exact Below.refl _ _ | refine laterAlloc ?_ _ | refine Below.drew ?_ | refine below_drewN ?_ _ | refine later (by assumption) ?_)⟩

set_option maxHeartbeats 1000000 in
theorem own_5 (a : Int) (w : World) (ha0 : 0 ≤ a) (ha1 : a ≤ 65535) :
    Calls Try.prog 53 #[.iface 72 (.agg #[.int .u16 a])] w fun e w' => e = .returned (.iface 72 (.agg #[.int .u16 a])) ∧ Below w.heap.size w w' := by
  have y := asYes_5 (.agg #[.int .u16 a])
  go_enter Try.func53, Try.ntmps53
  go_wp2_with fail
  go_ret
  exact ⟨rfl, by repeat (first | exact Below.refl _ _ | refine laterAlloc ?_ _ | refine Below.drew ?_ | refine below_drewN ?_ _ | refine later (by assumption) ?_)⟩

set_option maxHeartbeats 2000000 in
theorem of_5 (u : TypeId) (v : Value) (r g b a : Int) (w : World) (hs : Shows u v r g b a) (hu : u ≠ 72) :
    Calls Try.prog 53 #[.iface u v] w fun e w' => e = .returned (.iface 72 (.agg #[.int .u16 (c0 5 r g b a)])) ∧ Below w.heap.size w w' := by
  obtain ⟨⟨hr0, hr1, hg0, hg1, hb0, hb1, ha0, ha1⟩, f, x, hm, hn, hc⟩ := hs
  have HC := Lib.hid hc
  clear hc
  have y := asNo_5 u v hu
  go_enter Try.func53, Try.ntmps53
  go_wp2_with fail
  refine (HC.out _).mono ?_
  rintro e w1 ⟨rfl, b1⟩
  go_wp2_with fail
  go_ret
  exact ⟨rfl, by repeat (first | exact Below.refl _ _ | refine laterAlloc ?_ _ | refine Below.drew ?_ | refine below_drewN ?_ _ | refine later (by assumption) ?_)⟩

set_option maxHeartbeats 1000000 in
theorem own_6 (a : Int) (w : World) (ha0 : 0 ≤ a) (ha1 : a ≤ 255) :
    Calls Try.prog 54 #[.iface 74 (.agg #[.int .u8 a])] w fun e w' => e = .returned (.iface 74 (.agg #[.int .u8 a])) ∧ Below w.heap.size w w' := by
  have y := asYes_6 (.agg #[.int .u8 a])
  go_enter Try.func54, Try.ntmps54
  go_wp2_with fail
  go_ret
  exact ⟨rfl, by repeat (first | exact Below.refl _ _ | refine laterAlloc ?_ _ | refine Below.drew ?_ | refine below_drewN ?_ _ | refine later (by assumption) ?_)⟩

set_option maxHeartbeats 2000000 in
theorem of_6 (u : TypeId) (v : Value) (r g b a : Int) (w : World) (hs : Shows u v r g b a) (hu : u ≠ 74) :
    Calls Try.prog 54 #[.iface u v] w fun e w' => e = .returned (.iface 74 (.agg #[.int .u8 (c0 6 r g b a)])) ∧ Below w.heap.size w w' := by
  obtain ⟨⟨hr0, hr1, hg0, hg1, hb0, hb1, ha0, ha1⟩, f, x, hm, hn, hc⟩ := hs
  have HC := Lib.hid hc
  clear hc
  have y := asNo_6 u v hu
  go_enter Try.func54, Try.ntmps54
  go_wp2_with fail
  refine (HC.out _).mono ?_
  rintro e w1 ⟨rfl, b1⟩
  go_wp2_with fail
  go_ret
  exact ⟨rfl, by repeat (first | exact Below.refl _ _ | refine laterAlloc ?_ _ | refine Below.drew ?_ | refine below_drewN ?_ _ | refine later (by assumption) ?_)⟩

set_option maxHeartbeats 1000000 in
theorem own_7 (a : Int) (w : World) (ha0 : 0 ≤ a) (ha1 : a ≤ 65535) :
    Calls Try.prog 55 #[.iface 76 (.agg #[.int .u16 a])] w fun e w' => e = .returned (.iface 76 (.agg #[.int .u16 a])) ∧ Below w.heap.size w w' := by
  have y := asYes_7 (.agg #[.int .u16 a])
  go_enter Try.func55, Try.ntmps55
  go_wp2_with fail
  go_ret
  exact ⟨rfl, by repeat (first | exact Below.refl _ _ | refine laterAlloc ?_ _ | refine Below.drew ?_ | refine below_drewN ?_ _ | refine later (by assumption) ?_)⟩

set_option maxHeartbeats 2000000 in
theorem of_7 (u : TypeId) (v : Value) (r g b a : Int) (w : World) (hs : Shows u v r g b a) (hu : u ≠ 76) :
    Calls Try.prog 55 #[.iface u v] w fun e w' => e = .returned (.iface 76 (.agg #[.int .u16 (c0 7 r g b a)])) ∧ Below w.heap.size w w' := by
  obtain ⟨⟨hr0, hr1, hg0, hg1, hb0, hb1, ha0, ha1⟩, f, x, hm, hn, hc⟩ := hs
  have HC := Lib.hid hc
  clear hc
  have y := asNo_7 u v hu
  go_enter Try.func55, Try.ntmps55
  go_wp2_with fail
  refine (HC.out _).mono ?_
  rintro e w1 ⟨rfl, b1⟩
  go_wp2_with fail
  go_ret
  exact ⟨rfl, by repeat (first | exact Below.refl _ _ | refine laterAlloc ?_ _ | refine Below.drew ?_ | refine below_drewN ?_ _ | refine later (by assumption) ?_)⟩

set_option maxHeartbeats 1000000 in
theorem own_8 (a b c d : Int) (w : World) (ha0 : 0 ≤ a) (ha1 : a ≤ 255) (hb0 : 0 ≤ b) (hb1 : b ≤ 255) (hc0 : 0 ≤ c) (hc1 : c ≤ 255) (hd0 : 0 ≤ d) (hd1 : d ≤ 255) :
    Calls Try.prog 56 #[.iface 78 (.agg #[.int .u8 a, .int .u8 b, .int .u8 c, .int .u8 d])] w fun e w' => e = .returned (.iface 78 (.agg #[.int .u8 a, .int .u8 b, .int .u8 c, .int .u8 d])) ∧ Below w.heap.size w w' := by
  have y := asYes_8 (.agg #[.int .u8 a, .int .u8 b, .int .u8 c, .int .u8 d])
  go_enter Try.func56, Try.ntmps56
  go_wp2_with fail
  go_ret
  exact ⟨rfl, by repeat (first | exact Below.refl _ _ | refine laterAlloc ?_ _ | refine Below.drew ?_ | refine below_drewN ?_ _ | refine later (by assumption) ?_)⟩

set_option maxHeartbeats 2000000 in
theorem of_8 (u : TypeId) (v : Value) (r g b a : Int) (w : World) (hs : Shows u v r g b a) (hu : u ≠ 78) :
    Calls Try.prog 56 #[.iface u v] w fun e w' => e = .returned (.iface 78 (.agg #[.int .u8 (c0 8 r g b a), .int .u8 (c1 8 r g b a), .int .u8 (c2 8 r g b a), .int .u8 (c3 8 r g b a)])) ∧ Below w.heap.size w w' := by
  obtain ⟨⟨hr0, hr1, hg0, hg1, hb0, hb1, ha0, ha1⟩, f, x, hm, hn, hc⟩ := hs
  have HC := Lib.hid hc
  clear hc
  have y := asNo_8 u v hu
  go_enter Try.func56, Try.ntmps56
  go_wp2_with fail
  refine (HC.out _).mono ?_
  rintro e w1 ⟨rfl, b1⟩
  go_wp2_with fail
  refine (rgbToCMYK (r / 256) (g / 256) (b / 256) _ (by omega) (by omega) (by omega) (by omega) (by omega) (by omega)).mono ?_
  rintro e w' ⟨rfl, rfl⟩
  go_wp2_with fail
  go_ret
  exact ⟨rfl, by repeat (first | exact Below.refl _ _ | refine laterAlloc ?_ _ | refine Below.drew ?_ | refine below_drewN ?_ _ | refine later (by assumption) ?_)⟩

set_option maxHeartbeats 1000000 in
theorem own_9 (a b c : Int) (w : World) (ha0 : 0 ≤ a) (ha1 : a ≤ 255) (hb0 : 0 ≤ b) (hb1 : b ≤ 255) (hc0 : 0 ≤ c) (hc1 : c ≤ 255) :
    Calls Try.prog 57 #[.iface 80 (.agg #[.int .u8 a, .int .u8 b, .int .u8 c])] w fun e w' => e = .returned (.iface 80 (.agg #[.int .u8 a, .int .u8 b, .int .u8 c])) ∧ Below w.heap.size w w' := by
  have y := asYes_9 (.agg #[.int .u8 a, .int .u8 b, .int .u8 c])
  go_enter Try.func57, Try.ntmps57
  go_wp2_with fail
  go_ret
  exact ⟨rfl, by repeat (first | exact Below.refl _ _ | refine laterAlloc ?_ _ | refine Below.drew ?_ | refine below_drewN ?_ _ | refine later (by assumption) ?_)⟩

set_option maxHeartbeats 2000000 in
theorem of_9 (u : TypeId) (v : Value) (r g b a : Int) (w : World) (hs : Shows u v r g b a) (hu : u ≠ 80) :
    Calls Try.prog 57 #[.iface u v] w fun e w' => e = .returned (.iface 80 (.agg #[.int .u8 (c0 9 r g b a), .int .u8 (c1 9 r g b a), .int .u8 (c2 9 r g b a)])) ∧ Below w.heap.size w w' := by
  obtain ⟨⟨hr0, hr1, hg0, hg1, hb0, hb1, ha0, ha1⟩, f, x, hm, hn, hc⟩ := hs
  have HC := Lib.hid hc
  clear hc
  have y := asNo_9 u v hu
  go_enter Try.func57, Try.ntmps57
  go_wp2_with fail
  refine (HC.out _).mono ?_
  rintro e w1 ⟨rfl, b1⟩
  go_wp2_with fail
  refine (rgbToYCbCr (r / 256) (g / 256) (b / 256) _ (by omega) (by omega) (by omega) (by omega) (by omega) (by omega)).mono ?_
  rintro e w' ⟨rfl, rfl⟩
  go_wp2_with fail
  go_ret
  exact ⟨rfl, by repeat (first | exact Below.refl _ _ | refine laterAlloc ?_ _ | refine Below.drew ?_ | refine below_drewN ?_ _ | refine later (by assumption) ?_)⟩

set_option maxHeartbeats 1000000 in
theorem own_10 (a b c d : Int) (w : World) (ha0 : 0 ≤ a) (ha1 : a ≤ 255) (hb0 : 0 ≤ b) (hb1 : b ≤ 255) (hc0 : 0 ≤ c) (hc1 : c ≤ 255) (hd0 : 0 ≤ d) (hd1 : d ≤ 255) :
    Calls Try.prog 58 #[.iface 82 (.agg #[.int .u8 a, .int .u8 b, .int .u8 c, .int .u8 d])] w fun e w' => e = .returned (.iface 82 (.agg #[.int .u8 a, .int .u8 b, .int .u8 c, .int .u8 d])) ∧ Below w.heap.size w w' := by
  have y := asYes_10 (.agg #[.int .u8 a, .int .u8 b, .int .u8 c, .int .u8 d])
  go_enter Try.func58, Try.ntmps58
  go_wp2_with fail
  go_ret
  exact ⟨rfl, by repeat (first | exact Below.refl _ _ | refine laterAlloc ?_ _ | refine Below.drew ?_ | refine below_drewN ?_ _ | refine later (by assumption) ?_)⟩

set_option maxHeartbeats 2000000 in
theorem of_10 (u : TypeId) (v : Value) (r g b a : Int) (w : World) (hs : Shows u v r g b a) (hu : u ≠ 82) (hu9 : u ≠ 80) :
    Calls Try.prog 58 #[.iface u v] w fun e w' => e = .returned (.iface 82 (.agg #[.int .u8 (c0 10 r g b a), .int .u8 (c1 10 r g b a), .int .u8 (c2 10 r g b a), .int .u8 (c3 10 r g b a)])) ∧ Below w.heap.size w w' := by
  obtain ⟨⟨hr0, hr1, hg0, hg1, hb0, hb1, ha0, ha1⟩, f, x, hm, hn, hc⟩ := hs
  have HC := Lib.hid hc
  clear hc
  have y := asNo_10 u v hu
  have y9 := asNo_9 u v hu9
  by_cases hz : a = 0
  · subst hz
    obtain ⟨rfl, rfl, rfl⟩ : r = 0 ∧ g = 0 ∧ b = 0 := by omega
    go_enter Try.func58, Try.ntmps58
    go_wp2_with fail
    refine (HC.out _).mono ?_
    rintro e w1 ⟨rfl, b1⟩
    go_wp2_with fail
    refine (rgbToYCbCr _ _ _ _ (by omega) (by omega) (by omega) (by omega) (by omega) (by omega)).mono ?_
    rintro e w' ⟨rfl, rfl⟩
    go_wp2_with fail
    go_ret
    exact ⟨rfl, by repeat (first | exact Below.refl _ _ | refine laterAlloc ?_ _ | refine Below.drew ?_ | refine below_drewN ?_ _ | refine later (by assumption) ?_)⟩
  have hp : 1 ≤ a := by omega
  have u1 := un_range hr0 hr1
  have u2 := un_range hg0 hg1
  have u3 := un_range hb0 hb1
  have e1 : un r a = r * 65535 / a := by unfold un; rw [if_neg hz]
  have e2 : un g a = g * 65535 / a := by unfold un; rw [if_neg hz]
  have e3 : un b a = b * 65535 / a := by unfold un; rw [if_neg hz]
  rw [e1] at u1; rw [e2] at u2; rw [e3] at u3
  obtain ⟨v1, v2⟩ := u1
  obtain ⟨v3, v4⟩ := u2
  obtain ⟨v5, v6⟩ := u3
  have E1 := Lib.hid e1
  have E2 := Lib.hid e2
  have E3 := Lib.hid e3
  clear hz e1 e2 e3
  go_enter Try.func58, Try.ntmps58
  go_wp2_with fail
  refine (HC.out _).mono ?_
  rintro e w1 ⟨rfl, b1⟩
  go_wp2_with fail
  refine (rgbToYCbCr (r * 65535 / a / 256) (g * 65535 / a / 256) (b * 65535 / a / 256) _ (by omega) (by omega) (by omega) (by omega) (by omega) (by omega)).mono ?_
  rintro e w' ⟨rfl, rfl⟩
  go_wp2_with fail
  go_ret
  refine ⟨if4 ?_ ?_ ?_ ?_, by repeat (first | exact Below.refl _ _ | refine laterAlloc ?_ _ | refine Below.drew ?_ | refine below_drewN ?_ _ | refine later (by assumption) ?_)⟩
  all_goals simp only [c0, c1, c2, c3, if_false, Int.reduceEq, E1.out, E2.out, E3.out]

set_option maxHeartbeats 1000000 in
/-- A Y'CbCr color in the model with alpha. -/
theorem ycc_10 (a b c : Int) (w : World) (ha0 : 0 ≤ a) (ha1 : a ≤ 255) (hb0 : 0 ≤ b) (hb1 : b ≤ 255) (hc0 : 0 ≤ c) (hc1 : c ≤ 255) :
    Calls Try.prog 58 #[.iface 80 (.agg #[.int .u8 a, .int .u8 b, .int .u8 c])] w fun e w' => e = .returned (.iface 82 (.agg #[.int .u8 a, .int .u8 b, .int .u8 c, .int .u8 255])) ∧ Below w.heap.size w w' := by
  have y := asYes_9 (.agg #[.int .u8 a, .int .u8 b, .int .u8 c])
  have n := asNo_10 80 (.agg #[.int .u8 a, .int .u8 b, .int .u8 c]) (by decide)
  go_enter Try.func58, Try.ntmps58
  go_wp2_with fail
  go_ret
  exact ⟨rfl, by repeat (first | exact Below.refl _ _ | refine laterAlloc ?_ _ | refine Below.drew ?_ | refine below_drewN ?_ _ | refine later (by assumption) ?_)⟩
end Go.Proofs.Ytmfjacbpcgcdjaa
