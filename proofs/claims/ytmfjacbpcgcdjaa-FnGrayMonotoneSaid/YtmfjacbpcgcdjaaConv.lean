/- Convert converts a color by a model. -/
import Derived.Test.YtmfjacbpcgcdjaaColor
import Derived.WalkKit
import Derived.ProofKit
import Derived.OpenShut
import Derived.Outline
import Derived.WalkLawsBesides
import Derived.LoopN
import Derived.Lib.Hide
import Derived.Test.YtmfjacbpcgcdjaaModels
import Derived.Test.YtmfjacbpcgcdjaaPlainCv
namespace Go.Proofs.Ytmfjacbpcgcdjaa
open Go.ChangeShapes Go.WideShapes Go.ChangeAt Go.RowKit Plain
set_option linter.unusedVariables false

set_option maxHeartbeats 1000000 in
theorem to_0 (x y : Value) (w : World) (h : ∀ w, Calls Try.prog 48 #[x] w fun e w' => e = .returned y ∧ Below w.heap.size w w') :
    Calls Try.prog 32 #[.int .i64 0, x] w fun e w' => e = .returned y ∧ Below w.heap.size w w' := by
  have H := Lib.hid h
  clear h
  go_enter Try.func32, Try.ntmps32
  go_wp2_with (first | (go_at_call 48; refine (H.out _).mono ?_; rintro e w1 ⟨rfl, b1⟩) | go_in)
  go_ret
  exact ⟨rfl, by repeat (first | exact Below.refl _ _ | refine laterAlloc ?_ _ | refine Below.drew ?_ | refine below_drewN ?_ _ | refine later (by assumption) ?_)⟩

set_option maxHeartbeats 1000000 in
theorem to_1 (x y : Value) (w : World) (h : ∀ w, Calls Try.prog 49 #[x] w fun e w' => e = .returned y ∧ Below w.heap.size w w') :
    Calls Try.prog 32 #[.int .i64 1, x] w fun e w' => e = .returned y ∧ Below w.heap.size w w' := by
  have H := Lib.hid h
  clear h
  go_enter Try.func32, Try.ntmps32
  go_wp2_with (first | (go_at_call 49; refine (H.out _).mono ?_; rintro e w1 ⟨rfl, b1⟩) | go_in)
  go_ret
  exact ⟨rfl, by repeat (first | exact Below.refl _ _ | refine laterAlloc ?_ _ | refine Below.drew ?_ | refine below_drewN ?_ _ | refine later (by assumption) ?_)⟩

set_option maxHeartbeats 1000000 in
theorem to_2 (x y : Value) (w : World) (h : ∀ w, Calls Try.prog 50 #[x] w fun e w' => e = .returned y ∧ Below w.heap.size w w') :
    Calls Try.prog 32 #[.int .i64 2, x] w fun e w' => e = .returned y ∧ Below w.heap.size w w' := by
  have H := Lib.hid h
  clear h
  go_enter Try.func32, Try.ntmps32
  go_wp2_with (first | (go_at_call 50; refine (H.out _).mono ?_; rintro e w1 ⟨rfl, b1⟩) | go_in)
  go_ret
  exact ⟨rfl, by repeat (first | exact Below.refl _ _ | refine laterAlloc ?_ _ | refine Below.drew ?_ | refine below_drewN ?_ _ | refine later (by assumption) ?_)⟩

set_option maxHeartbeats 1000000 in
theorem to_3 (x y : Value) (w : World) (h : ∀ w, Calls Try.prog 51 #[x] w fun e w' => e = .returned y ∧ Below w.heap.size w w') :
    Calls Try.prog 32 #[.int .i64 3, x] w fun e w' => e = .returned y ∧ Below w.heap.size w w' := by
  have H := Lib.hid h
  clear h
  go_enter Try.func32, Try.ntmps32
  go_wp2_with (first | (go_at_call 51; refine (H.out _).mono ?_; rintro e w1 ⟨rfl, b1⟩) | go_in)
  go_ret
  exact ⟨rfl, by repeat (first | exact Below.refl _ _ | refine laterAlloc ?_ _ | refine Below.drew ?_ | refine below_drewN ?_ _ | refine later (by assumption) ?_)⟩

set_option maxHeartbeats 1000000 in
theorem to_4 (x y : Value) (w : World) (h : ∀ w, Calls Try.prog 52 #[x] w fun e w' => e = .returned y ∧ Below w.heap.size w w') :
    Calls Try.prog 32 #[.int .i64 4, x] w fun e w' => e = .returned y ∧ Below w.heap.size w w' := by
  have H := Lib.hid h
  clear h
  go_enter Try.func32, Try.ntmps32
  go_wp2_with (first | (go_at_call 52; refine (H.out _).mono ?_; rintro e w1 ⟨rfl, b1⟩) | go_in)
  go_ret
  exact ⟨rfl, by repeat (first | exact Below.refl _ _ | refine laterAlloc ?_ _ | refine Below.drew ?_ | refine below_drewN ?_ _ | refine later (by assumption) ?_)⟩

set_option maxHeartbeats 1000000 in
theorem to_5 (x y : Value) (w : World) (h : ∀ w, Calls Try.prog 53 #[x] w fun e w' => e = .returned y ∧ Below w.heap.size w w') :
    Calls Try.prog 32 #[.int .i64 5, x] w fun e w' => e = .returned y ∧ Below w.heap.size w w' := by
  have H := Lib.hid h
  clear h
  go_enter Try.func32, Try.ntmps32
  go_wp2_with (first | (go_at_call 53; refine (H.out _).mono ?_; rintro e w1 ⟨rfl, b1⟩) | go_in)
  go_ret
  exact ⟨rfl, by repeat (first | exact Below.refl _ _ | refine laterAlloc ?_ _ | refine Below.drew ?_ | refine below_drewN ?_ _ | refine later (by assumption) ?_)⟩

set_option maxHeartbeats 1000000 in
theorem to_6 (x y : Value) (w : World) (h : ∀ w, Calls Try.prog 54 #[x] w fun e w' => e = .returned y ∧ Below w.heap.size w w') :
    Calls Try.prog 32 #[.int .i64 6, x] w fun e w' => e = .returned y ∧ Below w.heap.size w w' := by
  have H := Lib.hid h
  clear h
  go_enter Try.func32, Try.ntmps32
  go_wp2_with (first | (go_at_call 54; refine (H.out _).mono ?_; rintro e w1 ⟨rfl, b1⟩) | go_in)
  go_ret
  exact ⟨rfl, by repeat (first | exact Below.refl _ _ | refine laterAlloc ?_ _ | refine Below.drew ?_ | refine below_drewN ?_ _ | refine later (by assumption) ?_)⟩

set_option maxHeartbeats 1000000 in
theorem to_7 (x y : Value) (w : World) (h : ∀ w, Calls Try.prog 55 #[x] w fun e w' => e = .returned y ∧ Below w.heap.size w w') :
    Calls Try.prog 32 #[.int .i64 7, x] w fun e w' => e = .returned y ∧ Below w.heap.size w w' := by
  have H := Lib.hid h
  clear h
  go_enter Try.func32, Try.ntmps32
  go_wp2_with (first | (go_at_call 55; refine (H.out _).mono ?_; rintro e w1 ⟨rfl, b1⟩) | go_in)
  go_ret
  exact ⟨rfl, by repeat (first | exact Below.refl _ _ | refine laterAlloc ?_ _ | refine Below.drew ?_ | refine below_drewN ?_ _ | refine later (by assumption) ?_)⟩

set_option maxHeartbeats 1000000 in
theorem to_8 (x y : Value) (w : World) (h : ∀ w, Calls Try.prog 56 #[x] w fun e w' => e = .returned y ∧ Below w.heap.size w w') :
    Calls Try.prog 32 #[.int .i64 8, x] w fun e w' => e = .returned y ∧ Below w.heap.size w w' := by
  have H := Lib.hid h
  clear h
  go_enter Try.func32, Try.ntmps32
  go_wp2_with (first | (go_at_call 56; refine (H.out _).mono ?_; rintro e w1 ⟨rfl, b1⟩) | go_in)
  go_ret
  exact ⟨rfl, by repeat (first | exact Below.refl _ _ | refine laterAlloc ?_ _ | refine Below.drew ?_ | refine below_drewN ?_ _ | refine later (by assumption) ?_)⟩

set_option maxHeartbeats 1000000 in
theorem to_9 (x y : Value) (w : World) (h : ∀ w, Calls Try.prog 57 #[x] w fun e w' => e = .returned y ∧ Below w.heap.size w w') :
    Calls Try.prog 32 #[.int .i64 9, x] w fun e w' => e = .returned y ∧ Below w.heap.size w w' := by
  have H := Lib.hid h
  clear h
  go_enter Try.func32, Try.ntmps32
  go_wp2_with (first | (go_at_call 57; refine (H.out _).mono ?_; rintro e w1 ⟨rfl, b1⟩) | go_in)
  go_ret
  exact ⟨rfl, by repeat (first | exact Below.refl _ _ | refine laterAlloc ?_ _ | refine Below.drew ?_ | refine below_drewN ?_ _ | refine later (by assumption) ?_)⟩

set_option maxHeartbeats 1000000 in
theorem to_10 (x y : Value) (w : World) (h : ∀ w, Calls Try.prog 58 #[x] w fun e w' => e = .returned y ∧ Below w.heap.size w w') :
    Calls Try.prog 32 #[.int .i64 10, x] w fun e w' => e = .returned y ∧ Below w.heap.size w w' := by
  have H := Lib.hid h
  clear h
  go_enter Try.func32, Try.ntmps32
  go_wp2_with (first | (go_at_call 58; refine (H.out _).mono ?_; rintro e w1 ⟨rfl, b1⟩) | go_in)
  go_ret
  exact ⟨rfl, by repeat (first | exact Below.refl _ _ | refine laterAlloc ?_ _ | refine Below.drew ?_ | refine below_drewN ?_ _ | refine later (by assumption) ?_)⟩

theorem ty_ne {k m : Int} (hk : k = 0 ∨ k = 1 ∨ k = 2 ∨ k = 3 ∨ k = 4 ∨ k = 5 ∨ k = 6 ∨ k = 7 ∨ k = 8 ∨ k = 9 ∨ k = 10) (hm : m = 0 ∨ m = 1 ∨ m = 2 ∨ m = 3 ∨ m = 4 ∨ m = 5 ∨ m = 6 ∨ m = 7 ∨ m = 8 ∨ m = 9 ∨ m = 10) (h : m ≠ k) : tyOf k ≠ tyOf m := by
  rcases hk with rfl | rfl | rfl | rfl | rfl | rfl | rfl | rfl | rfl | rfl | rfl <;> rcases hm with rfl | rfl | rfl | rfl | rfl | rfl | rfl | rfl | rfl | rfl | rfl <;> first | exact absurd rfl h | decide

theorem to_own (k a b c d : Int) (w : World) (h : proper k a b c d) :
    Calls Try.prog 32 #[.int .i64 k, .iface (tyOf k) (pay k a b c d)] w fun e w' => e = .returned (.iface (tyOf k) (pay k a b c d)) ∧ Below w.heap.size w w' := by
  have hk := proper_kind h
  unfold proper at h
  rcases hk with rfl | rfl | rfl | rfl | rfl | rfl | rfl | rfl | rfl | rfl | rfl
  · exact to_0 _ _ w fun w => own_0 a b c d w (by omega) (by omega) (by omega) (by omega) (by omega) (by omega) (by omega) (by omega)
  · exact to_1 _ _ w fun w => own_1 a b c d w (by omega) (by omega) (by omega) (by omega) (by omega) (by omega) (by omega) (by omega)
  · exact to_2 _ _ w fun w => own_2 a b c d w (by omega) (by omega) (by omega) (by omega) (by omega) (by omega) (by omega) (by omega)
  · exact to_3 _ _ w fun w => own_3 a b c d w (by omega) (by omega) (by omega) (by omega) (by omega) (by omega) (by omega) (by omega)
  · obtain ⟨rfl, rfl, rfl⟩ : b = 0 ∧ c = 0 ∧ d = 0 := by omega
    exact to_4 _ _ w fun w => own_4 a w (by omega) (by omega)
  · obtain ⟨rfl, rfl, rfl⟩ : b = 0 ∧ c = 0 ∧ d = 0 := by omega
    exact to_5 _ _ w fun w => own_5 a w (by omega) (by omega)
  · obtain ⟨rfl, rfl, rfl⟩ : b = 0 ∧ c = 0 ∧ d = 0 := by omega
    exact to_6 _ _ w fun w => own_6 a w (by omega) (by omega)
  · obtain ⟨rfl, rfl, rfl⟩ : b = 0 ∧ c = 0 ∧ d = 0 := by omega
    exact to_7 _ _ w fun w => own_7 a w (by omega) (by omega)
  · exact to_8 _ _ w fun w => own_8 a b c d w (by omega) (by omega) (by omega) (by omega) (by omega) (by omega) (by omega) (by omega)
  · obtain ⟨rfl⟩ : d = 0 := by omega
    exact to_9 _ _ w fun w => own_9 a b c w (by omega) (by omega) (by omega) (by omega) (by omega) (by omega)
  · exact to_10 _ _ w fun w => own_10 a b c d w (by omega) (by omega) (by omega) (by omega) (by omega) (by omega) (by omega) (by omega)

theorem to_any (m k a b c d : Int) (w : World) (hm : m = 0 ∨ m = 1 ∨ m = 2 ∨ m = 3 ∨ m = 4 ∨ m = 5 ∨ m = 6 ∨ m = 7 ∨ m = 8 ∨ m = 9 ∨ m = 10) (h : valid k a b c d) :
    Calls Try.prog 32 #[.int .i64 m, .iface (tyOf k) (pay k a b c d)] w fun e w' => e = .returned (.iface (tyOf m) (pay m (cv0 m k a b c d) (cv1 m k a b c d) (cv2 m k a b c d) (cv3 m k a b c d))) ∧ Below w.heap.size w w' := by
  by_cases e : m = k
  · subst e
    obtain ⟨e0, e1, e2, e3⟩ := cv_own m a b c d
    rw [e0, e1, e2, e3]
    exact to_own m a b c d w h.1
  by_cases e' : m = 10 ∧ k = 9
  · obtain ⟨rfl, rfl⟩ := e'
    have hp := h.1
    unfold proper at hp
    exact to_10 _ _ w fun w => ycc_10 a b c w (by omega) (by omega) (by omega) (by omega) (by omega) (by omega)
  have hs := shows_any k a b c d h
  have hn := ty_ne (proper_kind h.1) hm e
  obtain ⟨e0, e1, e2, e3⟩ := cv_other e e' a b c d
  rw [e0, e1, e2, e3]
  rcases hm with rfl | rfl | rfl | rfl | rfl | rfl | rfl | rfl | rfl | rfl | rfl
  · exact to_0 _ _ w fun w => of_0 _ _ _ _ _ _ w hs hn
  · exact to_1 _ _ w fun w => of_1 _ _ _ _ _ _ w hs hn
  · exact to_2 _ _ w fun w => of_2 _ _ _ _ _ _ w hs hn
  · exact to_3 _ _ w fun w => of_3 _ _ _ _ _ _ w hs hn
  · exact to_4 _ _ w fun w => of_4 _ _ _ _ _ _ w hs hn
  · exact to_5 _ _ w fun w => of_5 _ _ _ _ _ _ w hs hn
  · exact to_6 _ _ w fun w => of_6 _ _ _ _ _ _ w hs hn
  · exact to_7 _ _ w fun w => of_7 _ _ _ _ _ _ w hs hn
  · exact to_8 _ _ w fun w => of_8 _ _ _ _ _ _ w hs hn
  · exact to_9 _ _ w fun w => of_9 _ _ _ _ _ _ w hs hn
  · exact to_10 _ _ w fun w => of_10 _ _ _ _ _ _ w hs hn (ty_ne (m := 9) (proper_kind h.1) (by omega) (fun e9 => e' ⟨rfl, e9.symm⟩))

set_option maxHeartbeats 1000000 in
theorem implConvert (m k a b c d : Int) (w : World) (hm : m = 0 ∨ m = 1 ∨ m = 2 ∨ m = 3 ∨ m = 4 ∨ m = 5 ∨ m = 6 ∨ m = 7 ∨ m = 8 ∨ m = 9 ∨ m = 10) (h : valid k a b c d) :
    Calls Try.prog 19 #[.int .i64 m, .agg #[.int .i64 k, .int .u16 a, .int .u16 b, .int .u16 c, .int .u16 d]] w fun e w' => e = .returned (.agg #[.int .i64 m, .int .u16 (cv0 m k a b c d), .int .u16 (cv1 m k a b c d), .int .u16 (cv2 m k a b c d), .int .u16 (cv3 m k a b c d)]) ∧ Below w.heap.size w w' := by
  go_enter Try.func19, Try.ntmps19
  go_wp2_with fail
  refine (colorOf_any k a b c d _ h.1).mono ?_
  rintro e w1 ⟨rfl, b1⟩
  go_wp2_with fail
  refine (to_any m k a b c d _ hm h).mono ?_
  rintro e w2 ⟨rfl, b2⟩
  go_wp2_with fail
  refine (dataOf_any m (cv0 m k a b c d) (cv1 m k a b c d) (cv2 m k a b c d) (cv3 m k a b c d) _ (cv_valid hm h).1).mono ?_
  rintro e w3 ⟨rfl, b3⟩
  have B := later b3 (later b2 b1)
  have z : w.heap.size + 1 < w3.heap.size := by have := B.size; simp at this; omega
  have r0 : w3.cell? ⟨w.heap.size + 1, 0, none⟩ = some (.int .i64 0) := cell_later B (by simp [go_sem])
  have r1 : w3.cell? ⟨w.heap.size + 1, 1, none⟩ = some (.int .u16 0) := cell_later B (by simp [go_sem])
  have r2 : w3.cell? ⟨w.heap.size + 1, 2, none⟩ = some (.int .u16 0) := cell_later B (by simp [go_sem])
  have r3 : w3.cell? ⟨w.heap.size + 1, 3, none⟩ = some (.int .u16 0) := cell_later B (by simp [go_sem])
  have r4 : w3.cell? ⟨w.heap.size + 1, 4, none⟩ = some (.int .u16 0) := cell_later B (by simp [go_sem])
  have q : ∀ j, w3.frozen? ⟨w.heap.size + 1, j, none⟩ = false := fun j => (B.frozen (p := ⟨w.heap.size + 1, j, none⟩) (by simp)).trans (by simp [go_sem])
  have B' : Below w.heap.size w w3 := later B (laterAlloc (laterAlloc (Below.refl _ _) _) _)
  clear b1 b2 b3 B
  go_wp2_with fail
  refine bodyPost_ret (v := .agg #[.int .i64 m, .int .u16 (cv0 m k a b c d), .int .u16 (cv1 m k a b c d), .int .u16 (cv2 m k a b c d), .int .u16 (cv3 m k a b c d)]) (by simp [results, Try.results19, go_sem, r0, r1, r2, r3, r4, z]) rfl ⟨rfl, ?_⟩
  refine Below.alloc (((((B'.setCell ?_ _).setCell ?_ _).setCell ?_ _).setCell ?_ _).setCell ?_ _) ?_ _
  all_goals first | (simp; done) | (simp; omega)

set_option maxHeartbeats 1000000 in
theorem implConvertOwn (k a b c d : Int) (w : World) (h : proper k a b c d) :
    Calls Try.prog 19 #[.int .i64 k, .agg #[.int .i64 k, .int .u16 a, .int .u16 b, .int .u16 c, .int .u16 d]] w fun e w' => e = .returned (.agg #[.int .i64 k, .int .u16 a, .int .u16 b, .int .u16 c, .int .u16 d]) ∧ Below w.heap.size w w' := by
  go_enter Try.func19, Try.ntmps19
  go_wp2_with fail
  refine (colorOf_any k a b c d _ h).mono ?_
  rintro e w1 ⟨rfl, b1⟩
  go_wp2_with fail
  refine (to_own k a b c d _ h).mono ?_
  rintro e w2 ⟨rfl, b2⟩
  go_wp2_with fail
  refine (dataOf_any k a b c d _ h).mono ?_
  rintro e w3 ⟨rfl, b3⟩
  have B := later b3 (later b2 b1)
  have z : w.heap.size + 1 < w3.heap.size := by have := B.size; simp at this; omega
  have r0 : w3.cell? ⟨w.heap.size + 1, 0, none⟩ = some (.int .i64 0) := cell_later B (by simp [go_sem])
  have r1 : w3.cell? ⟨w.heap.size + 1, 1, none⟩ = some (.int .u16 0) := cell_later B (by simp [go_sem])
  have r2 : w3.cell? ⟨w.heap.size + 1, 2, none⟩ = some (.int .u16 0) := cell_later B (by simp [go_sem])
  have r3 : w3.cell? ⟨w.heap.size + 1, 3, none⟩ = some (.int .u16 0) := cell_later B (by simp [go_sem])
  have r4 : w3.cell? ⟨w.heap.size + 1, 4, none⟩ = some (.int .u16 0) := cell_later B (by simp [go_sem])
  have q : ∀ j, w3.frozen? ⟨w.heap.size + 1, j, none⟩ = false := fun j => (B.frozen (p := ⟨w.heap.size + 1, j, none⟩) (by simp)).trans (by simp [go_sem])
  have B' : Below w.heap.size w w3 := later B (laterAlloc (laterAlloc (Below.refl _ _) _) _)
  clear b1 b2 b3 B
  go_wp2_with fail
  refine bodyPost_ret (v := .agg #[.int .i64 k, .int .u16 a, .int .u16 b, .int .u16 c, .int .u16 d]) (by simp [results, Try.results19, go_sem, r0, r1, r2, r3, r4, z]) rfl ⟨rfl, ?_⟩
  refine Below.alloc (((((B'.setCell ?_ _).setCell ?_ _).setCell ?_ _).setCell ?_ _).setCell ?_ _) ?_ _
  all_goals first | (simp; done) | (simp; omega)
end Go.Proofs.Ytmfjacbpcgcdjaa
