/- The distance of the color that is told does not hang on the order of a palette: FnIndexInAnyOrder returns true for every palette and every color. No conditions. -/
import Derived.Test.YtbehpaclnpildaaLawPal
import Derived.Deep.DeepCutAuto
import Derived.Deep.RegionHeld3
import Derived.Deep.QuietTactic
import Derived.BigQuiet
import Derived.Test.YtbehpaclnpildaaReverse
namespace Go.Proofs.Ytbehpaclnpildaa
open Go.ChangeShapes Go.WideShapes Go.ChangeAt Go.RowKit Plain
set_option linter.unusedVariables false
theorem FnIndexInAnyOrder_empty (a0 : Option Addr) (cap : Nat) (y : Col) (w : World) : Calls Try.prog 7 #[.slice a0 0 cap, .agg #[.int .i64 y.k, .int .u16 y.a, .int .u16 y.b, .int .u16 y.c, .int .u16 y.d]] w fun e w' => e = .returned (.bool true) ∧ Below w.heap.size w w' := by
  have E := Lib.hid (fun w => small_empty a0 cap y w)
  go_enter Try.func7, Try.ntmps7
  go_wp2_with fail
  refine (E.out _).mono ?_
  rintro e w1 ⟨rfl, b1⟩
  go_wp2_with fail
  go_ret
  exact ⟨rfl, later b1 (laterAlloc (Below.refl _ _) _)⟩
theorem FnIndexInAnyOrder_long (B off len cap : Nat) (y : Col) (w : World) (hl : 2147483647 < len) (hm : len ≤ 9223372036854775807) : Calls Try.prog 7 #[.slice (some ⟨B, off, none⟩) len cap, .agg #[.int .i64 y.k, .int .u16 y.a, .int .u16 y.b, .int .u16 y.c, .int .u16 y.d]] w fun e w' => e = .returned (.bool true) ∧ Below w.heap.size w w' := by
  go_enter Try.func7, Try.ntmps7
  go_wp2_with fail
  go_ret
  exact ⟨rfl, laterAlloc (Below.refl _ _) _⟩
theorem FnIndexInAnyOrder_not (B off len cap : Nat) (ps : List Col) (y : Col) (w : World) (hp : PalAt w B off ps) (hlen : ps.length = len) (hpos : 0 < len) (hm : len ≤ 2147483647) (hyf : y.fits) (hn : ¬ (y.small ∧ ∀ x ∈ ps, x.small)) : Calls Try.prog 7 #[.slice (some ⟨B, off, none⟩) len cap, .agg #[.int .i64 y.k, .int .u16 y.a, .int .u16 y.b, .int .u16 y.c, .int .u16 y.d]] w fun e w' => e = .returned (.bool true) ∧ Below w.heap.size w w' := by
  have N := Lib.hid (fun w hp => small_no B off len cap ps y w hp hlen hpos hm hyf hn)
  have HP := Lib.hid hp
  clear hp hn hyf hlen
  go_enter Try.func7, Try.ntmps7
  go_wp2_with fail
  refine (N.out _ HP.out.alloc).mono ?_
  rintro e w1 ⟨rfl, b1⟩
  go_wp2_with fail
  go_ret
  exact ⟨rfl, later b1 (laterAlloc (Below.refl _ _) _)⟩
theorem rowOf {w : World} {base g n cp : Nat} {ps : List Col} (h : w.ownsRow base 26 5 (.slice (some ⟨g, 0, none⟩) n cp) n (flat ps)) (hf : ∀ x ∈ ps, x.fits) (hl : ps.length = n) : RowAt w g n (fun k => ps.getD k ⟨0, 0, 0, 0, 0⟩) := by
  intro k hk
  refine ⟨?_, fun j hj => h.frozenAt _⟩
  have hx : ps[k]? = some (ps[k]'(by omega)) := List.getElem?_eq_getElem (by omega)
  have e : (fun k => ps.getD k ⟨0, 0, 0, 0, 0⟩) k = ps[k]'(by omega) := by show ps.getD k _ = _; rw [List.getD_eq_getElem?_getD, hx]; rfl
  rw [e]
  have := (palAt_row h hf).cells hx
  rw [Nat.zero_add] at this
  exact this
theorem palOf {w : World} {g n : Nat} {ps : List Col} (h : RowAt w g n (fun k => ps.getD (n - 1 - k) ⟨0, 0, 0, 0, 0⟩)) (hf : ∀ x ∈ ps, x.fits) (hl : ps.length = n) : PalAt w g 0 ps.reverse := by
  intro i x hx
  have hi : i < n := by have := (List.getElem?_eq_some_iff.1 hx).1; rw [List.length_reverse] at this; omega
  rw [List.getElem?_reverse (by omega), hl] at hx
  have hc := (h i hi).1
  have e : (fun k => ps.getD (n - 1 - k) ⟨0, 0, 0, 0, 0⟩) i = x := by show ps.getD (n - 1 - i) _ = _; rw [List.getD_eq_getElem?_getD, hx]; rfl
  rw [e] at hc
  rw [Nat.zero_add]
  exact ⟨hc, hf x (List.mem_of_getElem? hx)⟩
set_option maxHeartbeats 4000000 in
theorem FnIndexInAnyOrder_main (B off len cap : Nat) (ps : List Col) (y : Col) (w : World) (hp : PalAt w B off ps) (hlen : ps.length = len) (hpos : 0 < len) (hm : len ≤ 2147483647) (hy : y.small) (hv : ∀ x ∈ ps, x.small) : Calls Try.prog 7 #[.slice (some ⟨B, off, none⟩) len cap, .agg #[.int .i64 y.k, .int .u16 y.a, .int .u16 y.b, .int .u16 y.c, .int .u16 y.d]] w fun e w' => e = .returned (.bool true) ∧ Below w.heap.size w w' := by
  have hvv : ∀ x ∈ ps, x.valid := fun x hx => (hv x hx).valid
  have qv : ∀ x ∈ ps.reverse, x.small := fun x hx => hv x (List.mem_reverse.1 hx)
  have qvv : ∀ x ∈ ps.reverse, x.valid := fun x hx => (qv x hx).valid
  have qlen : ps.reverse.length = len := by rw [List.length_reverse, hlen]
  obtain ⟨z, hz, _⟩ := best_least hy.valid hvv (by omega)
  obtain ⟨z2, hz2, _⟩ := best_least hy.valid qvv (by omega)
  have HEQ := Lib.hid (show distOf z y = distOf z2 y from Int.le_antisymm (best_small hy hv (by omega) hz z2 (List.mem_reverse.1 (List.mem_of_getElem? hz2))) (best_small hy qv (by omega) hz2 z (List.mem_reverse.2 (List.mem_of_getElem? hz))))
  have hb : best y ps < len := by rw [← hlen]; exact best_lt hy.valid hvv (by omega)
  have hb2 : best y ps.reverse < len := by have := best_lt hy.valid qvv (by omega); omega
  have Y := Lib.hid (fun w hp => small_yes B off len cap ps y w hp hlen hpos hm hy hv)
  have C := Lib.hid (fun b w hb hp => slicesCloneB b B off len cap ps w hb hp hlen hpos (by omega))
  have HF := Lib.hid hp.fits
  have HL := Lib.hid hlen
  have R := Lib.hid (fun base g cp w hg h => slicesReverse base g len cp (fun k => ps.getD k ⟨0, 0, 0, 0, 0⟩) w hg h (by omega))
  have I := Lib.hid (fun w hp => implIndex B off len cap ps y w hp hvv hy.valid hlen hpos (by omega))
  have I2 := Lib.hid (fun g cp w hp => implIndex g 0 len cp ps.reverse y w hp qvv hy.valid qlen (by omega) (by omega))
  have V := Lib.hid (fun w => implValues y.k y.a y.b y.c y.d w hy.valid)
  have Vz := Lib.hid (fun w => implValues z.k z.a z.b z.c z.d w (hvv z (List.mem_of_getElem? hz)))
  have Vz2 := Lib.hid (fun w => implValues z2.k z2.a z2.b z2.c z2.d w (qvv z2 (List.mem_of_getElem? hz2)))
  have Dz := Lib.hid (fun w => distCols z y w (hvv z (List.mem_of_getElem? hz)) hy.valid)
  have Dz2 := Lib.hid (fun w => distCols z2 y w (qvv z2 (List.mem_of_getElem? hz2)) hy.valid)
  have HP := Lib.hid hp
  have HZ := Lib.hid hz
  have HZ2 := Lib.hid hz2
  clear hp hv hy hlen hz hz2 hvv qv qvv qlen
  go_enter Try.func7, Try.ntmps7
  go_wp2_with fail
  generalize hw0 : w.alloc (.cells #[.int .i64 y.k, .int .u16 y.a, .int .u16 y.b, .int .u16 y.c, .int .u16 y.d] 26 (0, 0)) = w0
  have c0 : ∀ w', Since w0 w' → w'.cell? ⟨w.heap.size, 0, none⟩ = some (.int .i64 y.k) := fun w' h => cell_later h.below (by rw [← hw0]; simp [go_sem])
  have c1 : ∀ w', Since w0 w' → w'.cell? ⟨w.heap.size, 1, none⟩ = some (.int .u16 y.a) := fun w' h => cell_later h.below (by rw [← hw0]; simp [go_sem])
  have c2 : ∀ w', Since w0 w' → w'.cell? ⟨w.heap.size, 2, none⟩ = some (.int .u16 y.b) := fun w' h => cell_later h.below (by rw [← hw0]; simp [go_sem])
  have c3 : ∀ w', Since w0 w' → w'.cell? ⟨w.heap.size, 3, none⟩ = some (.int .u16 y.c) := fun w' h => cell_later h.below (by rw [← hw0]; simp [go_sem])
  have c4 : ∀ w', Since w0 w' → w'.cell? ⟨w.heap.size, 4, none⟩ = some (.int .u16 y.d) := fun w' h => cell_later h.below (by rw [← hw0]; simp [go_sem])
  have hB0 : Below w.heap.size w w0 := by rw [← hw0]; exact laterAlloc (Below.refl _ _) _
  have HS := Lib.hid (show w.heap.size < w0.heap.size by rw [← hw0]; simp)
  clear hw0
  refine (Y.out _ (HP.out.call hB0)).mono ?_
  rintro e w1 ⟨rfl, b1⟩
  have n1 : Since w0 w1 := b1
  clear b1
  go_wp2_with fail
  refine (C.out w0.heap.size _ n1.size (HP.out.call (later n1.below hB0))).mono ?_
  rintro e w2 ⟨g, cp, rfl, hown, b2⟩
  have n2 : Since w0 w2 := n1.call b2
  have hg : w0.heap.size ≤ g := ownBlock_le hown rfl
  have hrow := rowOf hown HF.out HL.out
  have HR := Lib.hid (R.out w0.heap.size g cp w2 hg hrow)
  clear b2 n1 C Y hown hrow R hg
  go_wp2_with fail
  refine HR.out.mono ?_
  rintro e wb ⟨rfl, hrow, b3⟩
  have n3 : Since w0 wb := Below.trans n2 b3
  · have HQ := Lib.hid (palOf hrow HF.out HL.out)
    have HPb := Lib.hid (HP.out.call (later n3.below hB0))
    have hBb := Lib.hid (later n3.below hB0)
    clear hrow b3 n2 HR
    have y0 : ∀ w', Since wb w' → w'.cell? ⟨w.heap.size, 0, none⟩ = some (.int .i64 y.k) := fun w' h => c0 w' (Since.call h.below n3)
    have y1 : ∀ w', Since wb w' → w'.cell? ⟨w.heap.size, 1, none⟩ = some (.int .u16 y.a) := fun w' h => c1 w' (Since.call h.below n3)
    have y2 : ∀ w', Since wb w' → w'.cell? ⟨w.heap.size, 2, none⟩ = some (.int .u16 y.b) := fun w' h => c2 w' (Since.call h.below n3)
    have y3 : ∀ w', Since wb w' → w'.cell? ⟨w.heap.size, 3, none⟩ = some (.int .u16 y.c) := fun w' h => c3 w' (Since.call h.below n3)
    have y4 : ∀ w', Since wb w' → w'.cell? ⟨w.heap.size, 4, none⟩ = some (.int .u16 y.d) := fun w' h => c4 w' (Since.call h.below n3)
    clear c0 c1 c2 c3 c4
    have I1 := Lib.hid (fun w' (h : Since wb w') => I.out w' (HPb.out.call h.below))
    have J1 := Lib.hid (fun w' (h : Since wb w') => I2.out g cp w' (HQ.out.call h.below))
    clear I I2 HP
    have m0 := Since.refl wb
    go_upto_region 7 with (fail)
    go_cut [6, 7, 8] (fun v1 v2 v3 wx => ∃ h : Nat, v1 = .int .i64 (best y ps) ∧ v2 = .int .i64 (best y ps.reverse) ∧ v3 = .pointer (some ⟨h, 0, none⟩) ∧ Since wb wx ∧ ValsAt wx h y)
    case first =>
      go_region_held3 (fun w' => Since wb w')
        (first | with_reducible assumption | with_reducible exact Since.call (by with_reducible assumption) (by with_reducible assumption) | with_reducible exact Since.drew (Since.up (Since.undrew (by with_reducible assumption))) | with_reducible exact (Since.up (by with_reducible assumption)) | with_reducible exact (Since.up (Since.down (by first | omega | (simp; done) | (simp; omega)) (by with_reducible assumption))) | with_reducible exact (Since.up (Since.up (Since.down (by first | omega | (simp; done) | (simp; omega)) (Since.down (by first | omega | (simp; done) | (simp; omega)) (by with_reducible assumption))))) | with_reducible exact Since.drew (by with_reducible assumption) | with_reducible exact (Since.set (by first | omega | (simp; done) | (simp; omega)) (Since.set (by first | omega | (simp; done) | (simp; omega)) (Since.set (by first | omega | (simp; done) | (simp; omega)) (Since.set (by first | omega | (simp; done) | (simp; omega)) (by with_reducible assumption))))) | with_reducible exact (Since.up (Since.set (by first | omega | (simp; done) | (simp; omega)) (Since.set (by first | omega | (simp; done) | (simp; omega)) (Since.set (by first | omega | (simp; done) | (simp; omega)) (Since.set (by first | omega | (simp; done) | (simp; omega)) (Since.down (by first | omega | (simp; done) | (simp; omega)) (by with_reducible assumption))))))))
        (first | (go_at_call 12; (with_reducible refine (I1.out _ (by with_reducible assumption)).mono ?_); rintro e w' ⟨rfl, hb⟩; obtain ⟨cc, cf⟩ := bcell hb; have hzz := hb.size; (try simp at hzz); (try (first | have hz8 := Nat.lt_of_lt_of_le hz6 hzz | have hz8 := Nat.lt_trans hz6 hzz | have hz8 := Nat.lt_of_lt_of_le hz6 (Nat.le_of_succ_le hzz) | have hz8 := Nat.lt_of_lt_of_le hz6 (Nat.le_of_succ_le (Nat.le_of_succ_le hzz)))); (try (first | have hz9 := Nat.lt_of_lt_of_le hz7 hzz | have hz9 := Nat.lt_trans hz7 hzz | have hz9 := Nat.lt_of_lt_of_le hz7 (Nat.le_of_succ_le hzz) | have hz9 := Nat.lt_of_lt_of_le hz7 (Nat.le_of_succ_le (Nat.le_of_succ_le hzz)))); (try (first | have hz6 := Nat.lt_of_lt_of_le hz2 hzz | have hz6 := Nat.lt_trans hz2 hzz | have hz6 := Nat.lt_of_lt_of_le hz2 (Nat.le_of_succ_le hzz) | have hz6 := Nat.lt_of_lt_of_le hz2 (Nat.le_of_succ_le (Nat.le_of_succ_le hzz)))); (try (first | have hz7 := Nat.lt_of_lt_of_le hz3 hzz | have hz7 := Nat.lt_trans hz3 hzz | have hz7 := Nat.lt_of_lt_of_le hz3 (Nat.le_of_succ_le hzz) | have hz7 := Nat.lt_of_lt_of_le hz3 (Nat.le_of_succ_le (Nat.le_of_succ_le hzz)))); (try (have hz2 := Nat.lt_of_lt_of_le (Nat.lt_succ_self _) hzz)); (try (have hz3 := Nat.lt_of_succ_lt hz2)); (try (have hz2n := Nat.ne_of_lt hz2; have hz2m := Nat.ne_of_gt hz2)); (try (have hz3n := Nat.ne_of_lt hz3; have hz3m := Nat.ne_of_gt hz3)); (try (have hz6n := Nat.ne_of_lt hz6; have hz6m := Nat.ne_of_gt hz6)); (try (have hz7n := Nat.ne_of_lt hz7; have hz7m := Nat.ne_of_gt hz7)); (try (have hz8n := Nat.ne_of_lt hz8; have hz8m := Nat.ne_of_gt hz8)); (try (have hz9n := Nat.ne_of_lt hz9; have hz9m := Nat.ne_of_gt hz9))) | (go_at_call 12; (with_reducible refine (J1.out _ (by with_reducible assumption)).mono ?_); rintro e w' ⟨rfl, hb⟩; obtain ⟨cc, cf⟩ := bcell hb; have hzz := hb.size; (try simp at hzz); (try (first | have hz8 := Nat.lt_of_lt_of_le hz6 hzz | have hz8 := Nat.lt_trans hz6 hzz | have hz8 := Nat.lt_of_lt_of_le hz6 (Nat.le_of_succ_le hzz) | have hz8 := Nat.lt_of_lt_of_le hz6 (Nat.le_of_succ_le (Nat.le_of_succ_le hzz)))); (try (first | have hz9 := Nat.lt_of_lt_of_le hz7 hzz | have hz9 := Nat.lt_trans hz7 hzz | have hz9 := Nat.lt_of_lt_of_le hz7 (Nat.le_of_succ_le hzz) | have hz9 := Nat.lt_of_lt_of_le hz7 (Nat.le_of_succ_le (Nat.le_of_succ_le hzz)))); (try (first | have hz6 := Nat.lt_of_lt_of_le hz2 hzz | have hz6 := Nat.lt_trans hz2 hzz | have hz6 := Nat.lt_of_lt_of_le hz2 (Nat.le_of_succ_le hzz) | have hz6 := Nat.lt_of_lt_of_le hz2 (Nat.le_of_succ_le (Nat.le_of_succ_le hzz)))); (try (first | have hz7 := Nat.lt_of_lt_of_le hz3 hzz | have hz7 := Nat.lt_trans hz3 hzz | have hz7 := Nat.lt_of_lt_of_le hz3 (Nat.le_of_succ_le hzz) | have hz7 := Nat.lt_of_lt_of_le hz3 (Nat.le_of_succ_le (Nat.le_of_succ_le hzz)))); (try (have hz2 := Nat.lt_of_lt_of_le (Nat.lt_succ_self _) hzz)); (try (have hz3 := Nat.lt_of_succ_lt hz2)); (try (have hz2n := Nat.ne_of_lt hz2; have hz2m := Nat.ne_of_gt hz2)); (try (have hz3n := Nat.ne_of_lt hz3; have hz3m := Nat.ne_of_gt hz3)); (try (have hz6n := Nat.ne_of_lt hz6; have hz6m := Nat.ne_of_gt hz6)); (try (have hz7n := Nat.ne_of_lt hz7; have hz7m := Nat.ne_of_gt hz7)); (try (have hz8n := Nat.ne_of_lt hz8; have hz8m := Nat.ne_of_gt hz8)); (try (have hz9n := Nat.ne_of_lt hz9; have hz9m := Nat.ne_of_gt hz9))) | (go_at_call 13; (with_reducible refine (V.out _).mono ?_); rintro e w' ⟨rfl, hb⟩; obtain ⟨cc, cf⟩ := bcell hb; have hzz := hb.size; (try simp at hzz); (try (first | have hz8 := Nat.lt_of_lt_of_le hz6 hzz | have hz8 := Nat.lt_trans hz6 hzz | have hz8 := Nat.lt_of_lt_of_le hz6 (Nat.le_of_succ_le hzz) | have hz8 := Nat.lt_of_lt_of_le hz6 (Nat.le_of_succ_le (Nat.le_of_succ_le hzz)))); (try (first | have hz9 := Nat.lt_of_lt_of_le hz7 hzz | have hz9 := Nat.lt_trans hz7 hzz | have hz9 := Nat.lt_of_lt_of_le hz7 (Nat.le_of_succ_le hzz) | have hz9 := Nat.lt_of_lt_of_le hz7 (Nat.le_of_succ_le (Nat.le_of_succ_le hzz)))); (try (first | have hz6 := Nat.lt_of_lt_of_le hz2 hzz | have hz6 := Nat.lt_trans hz2 hzz | have hz6 := Nat.lt_of_lt_of_le hz2 (Nat.le_of_succ_le hzz) | have hz6 := Nat.lt_of_lt_of_le hz2 (Nat.le_of_succ_le (Nat.le_of_succ_le hzz)))); (try (first | have hz7 := Nat.lt_of_lt_of_le hz3 hzz | have hz7 := Nat.lt_trans hz3 hzz | have hz7 := Nat.lt_of_lt_of_le hz3 (Nat.le_of_succ_le hzz) | have hz7 := Nat.lt_of_lt_of_le hz3 (Nat.le_of_succ_le (Nat.le_of_succ_le hzz)))); (try (have hz2 := Nat.lt_of_lt_of_le (Nat.lt_succ_self _) hzz)); (try (have hz3 := Nat.lt_of_succ_lt hz2)); (try (have hz2n := Nat.ne_of_lt hz2; have hz2m := Nat.ne_of_gt hz2)); (try (have hz3n := Nat.ne_of_lt hz3; have hz3m := Nat.ne_of_gt hz3)); (try (have hz6n := Nat.ne_of_lt hz6; have hz6m := Nat.ne_of_gt hz6)); (try (have hz7n := Nat.ne_of_lt hz7; have hz7m := Nat.ne_of_gt hz7)); (try (have hz8n := Nat.ne_of_lt hz8; have hz8m := Nat.ne_of_gt hz8)); (try (have hz9n := Nat.ne_of_lt hz9; have hz9m := Nat.ne_of_gt hz9))))
      all_goals (rename_i hH; go_wp2_with fail; go_meet; refine ⟨_, rfl, rfl, rfl, hH, ?_⟩; clear hH y0 y1 y2 y3 y4; refine ⟨?_, ?_, ?_, ?_⟩ <;> (first | (simp [go_sem, *]; done) | (simp (maxDischargeDepth := 12) [go_sem, *]; done)))
    case rest =>
      obtain ⟨h, rfl, rfl, rfl, n5, hvl⟩ := hcut
      obtain ⟨wd, rfl⟩ : ∃ wd : World, wd = wc := ⟨_, rfl⟩
      clear y0 y1 y2 y3 y4 I1 J1 V
      obtain ⟨v0, v1, v2, v3⟩ := hvl
      obtain ⟨p0, p1, p2, p3, p4⟩ := (HPb.out.call n5.below).cells HZ.out
      obtain ⟨q0, q1, q2, q3, q4⟩ := (HQ.out.call n5.below).cells HZ2.out
      have a0 : ∀ w', Since wd w' → w'.cell? ⟨B, off + best y ps * 5, none⟩ = some (.int .i64 z.k) := fun w' h => cell_later h.below p0
      have a1 : ∀ w', Since wd w' → w'.cell? ⟨B, off + best y ps * 5 + 1, none⟩ = some (.int .u16 z.a) := fun w' h => cell_later h.below p1
      have a2 : ∀ w', Since wd w' → w'.cell? ⟨B, off + best y ps * 5 + 2, none⟩ = some (.int .u16 z.b) := fun w' h => cell_later h.below p2
      have a3 : ∀ w', Since wd w' → w'.cell? ⟨B, off + best y ps * 5 + 3, none⟩ = some (.int .u16 z.c) := fun w' h => cell_later h.below p3
      have a4 : ∀ w', Since wd w' → w'.cell? ⟨B, off + best y ps * 5 + 4, none⟩ = some (.int .u16 z.d) := fun w' h => cell_later h.below p4
      have b0 : ∀ w', Since wd w' → w'.cell? ⟨g, best y ps.reverse * 5, none⟩ = some (.int .i64 z2.k) := fun w' h => cell_later h.below (by rw [Nat.zero_add] at q0; exact q0)
      have b1 : ∀ w', Since wd w' → w'.cell? ⟨g, best y ps.reverse * 5 + 1, none⟩ = some (.int .u16 z2.a) := fun w' h => cell_later h.below (by rw [Nat.zero_add] at q1; exact q1)
      have b2 : ∀ w', Since wd w' → w'.cell? ⟨g, best y ps.reverse * 5 + 2, none⟩ = some (.int .u16 z2.b) := fun w' h => cell_later h.below (by rw [Nat.zero_add] at q2; exact q2)
      have b3 : ∀ w', Since wd w' → w'.cell? ⟨g, best y ps.reverse * 5 + 3, none⟩ = some (.int .u16 z2.c) := fun w' h => cell_later h.below (by rw [Nat.zero_add] at q3; exact q3)
      have b4 : ∀ w', Since wd w' → w'.cell? ⟨g, best y ps.reverse * 5 + 4, none⟩ = some (.int .u16 z2.d) := fun w' h => cell_later h.below (by rw [Nat.zero_add] at q4; exact q4)
      have e0 : ∀ w', Since wd w' → w'.cell? ⟨h, 0, none⟩ = some (.int .u32 (vR y.k y.a y.b y.c y.d)) := fun w' h => cell_later h.below v0
      have e1 : ∀ w', Since wd w' → w'.cell? ⟨h, 1, none⟩ = some (.int .u32 (vG y.k y.a y.b y.c y.d)) := fun w' h => cell_later h.below v1
      have e2 : ∀ w', Since wd w' → w'.cell? ⟨h, 2, none⟩ = some (.int .u32 (vB y.k y.a y.b y.c y.d)) := fun w' h => cell_later h.below v2
      have e3 : ∀ w', Since wd w' → w'.cell? ⟨h, 3, none⟩ = some (.int .u32 (vA y.k y.a y.b y.c y.d)) := fun w' h => cell_later h.below v3
      clear p0 p1 p2 p3 p4 q0 q1 q2 q3 q4 v0 v1 v2 v3
      have m1 := Since.refl wd
      have hb2i : (best y ps.reverse : Int) < (len : Int) := by omega
      have hb1i : (best y ps : Int) < (len : Int) := by omega
      go_wp2_with fail
      go_region_held3 (fun w' => Since wd w')
        (first | with_reducible assumption | with_reducible exact Since.drew (by with_reducible assumption) | with_reducible exact Since.call (by with_reducible assumption) (by with_reducible assumption))
        (first | (go_at_call 13; (with_reducible refine (Vz.out _).mono ?_); rintro e w' ⟨rfl, hb⟩) | (go_at_call 13; (with_reducible refine (Vz2.out _).mono ?_); rintro e w' ⟨rfl, hb⟩) | (go_at_call 14; (with_reducible refine (Dz.out _).mono ?_); rintro e w' ⟨rfl, hb⟩) | (go_at_call 14; (with_reducible refine (Dz2.out _).mono ?_); rintro e w' ⟨rfl, hb⟩))
      rename_i hH
      go_wp2
      go_ret
      refine ⟨ret_bool ?_, later hH.below (later n5.below hBb.out)⟩
      simp [HEQ.out]
theorem FnIndexInAnyOrder_walk (w : World) (v : Value) (k a b c d : Int) (hp : IsPal w v) (hk0 : -9223372036854775808 ≤ k) (hk1 : k ≤ 9223372036854775807) (ha0 : 0 ≤ a) (ha1 : a ≤ 65535) (hb0 : 0 ≤ b) (hb1 : b ≤ 65535) (hc0 : 0 ≤ c) (hc1 : c ≤ 65535) (hd0 : 0 ≤ d) (hd1 : d ≤ 65535) : Calls Try.prog 7 #[v, .agg #[.int .i64 k, .int .u16 a, .int .u16 b, .int .u16 c, .int .u16 d]] w fun e w' => e = .returned (.bool true) ∧ Below w.heap.size w w' := by
  have hyf : (⟨k, a, b, c, d⟩ : Col).fits := ⟨⟨hk0, hk1⟩, ⟨ha0, ha1⟩, ⟨hb0, hb1⟩, ⟨hc0, hc1⟩, ⟨hd0, hd1⟩⟩
  rcases hp with ⟨a0, cap, rfl⟩ | ⟨B, off, len, cap, ps, rfl, hlen, hpos, hL, hp⟩
  · exact FnIndexInAnyOrder_empty a0 cap ⟨k, a, b, c, d⟩ w
  by_cases hm : len ≤ 2147483647
  · by_cases hn : (⟨k, a, b, c, d⟩ : Col).small ∧ ∀ x ∈ ps, x.small
    · exact FnIndexInAnyOrder_main B off len cap ps ⟨k, a, b, c, d⟩ w hp hlen hpos hm hn.1 hn.2
    · exact FnIndexInAnyOrder_not B off len cap ps ⟨k, a, b, c, d⟩ w hp hlen hpos hm hyf hn
  · exact FnIndexInAnyOrder_long B off len cap ⟨k, a, b, c, d⟩ w (by omega) hL
/-! ### The row's step, for FnIndexInAnyOrder. -/
namespace FnIndexInAnyOrderFrame
open Go.ChangeShapes Go.WideShapes Go.ChangeAt Go.RowKit
theorem own : ownKnob Try.prog.godebug = none := by kernel_rfl
theorem laidOut : laidOutB Try.prog = true := by kernel_rfl
set_option maxRecDepth 100000 in
theorem lifted (os : Os) (started : os.Started) (H : Type) (enc : TypeId × Value → H) :
    ReturnsInHanded {} Try.checked os 7 .any (Rows.fnIndexInAnyOrderSpec.pre6 enc Try.prog Try.f7 Rows.fnIndexInAnyOrderRow.domain false) (Rows.fnIndexInAnyOrderSpec.post enc Try.prog Try.f7 false true false false) := by
  refine returnsInHanded_of_change (C := Try.checked) own started (by kernel_rfl) Try.func7
    (ChangeSpec.witness6 (enc := enc) (C := Try.checked) false ⟨#[], #[.slice none 0 0, .agg #[.int .i64 0, .int .u16 0, .int .u16 0, .int .u16 0, .int .u16 0]], []⟩ 8 (by kernel_rfl) (by kernel_rfl) (by kernel_rfl) (by kernel_rfl)) ?_
  intro W base args ds gs before hval0 hW hcnd _
  have hval : ∀ (j : Nat) t v, Try.f7.params[j]? = some t → args[j]? = some v → Value.okWide Try.prog W .any base t v := hval0
  have hW' := hW
  obtain ⟨p, q, hA0, hV, rfl, hfz, hnd⟩ := hW
  have hA : DataW.TrodAll enc Try.prog W 0 (fun _ => true) true Try.f7.params.toList args.toList ds p := hA0
  rw [Try.params7] at hA hval
  obtain ⟨v0, vs0, d0, ds0, p0, q0, hargs, rfl, rfl, h0, r0⟩ := trodAll_cons hA
  obtain ⟨v1, vs1, d1, ds1, p1, q1, rfl, rfl, rfl, h1, r1⟩ := trodAll_cons r0
  obtain ⟨rfl, rfl, rfl⟩ := trodAll_nil r1
  obtain rfl : args = #[v0, v1] := by cases args; simp_all
  obtain ⟨rfl, rfl⟩ := trodVars_none hV
  have k0 := h0
  have lt0 : ∀ x ∈ p0, x.block < W.heap.size := by obtain ⟨m, hm⟩ := k0; exact DataW.trod_lt m _ _ _ hm
  have pal0 := open_palV (hval 0 22 v0 rfl rfl) h0
  have k1 := h1
  have lt1 : ∀ x ∈ p1, x.block < W.heap.size := by obtain ⟨m, hm⟩ := k1; exact DataW.trod_lt m _ _ _ hm
  obtain ⟨k_1, a_1, b_1, c_1, d_1, rfl, hk1, ha1, hb1, hc1, hd1⟩ := open_color (hval 1 26 v1 rfl rfl) h1
  clear hA0 hval0
  refine (FnIndexInAnyOrder_walk W v0 k_1 a_1 b_1 c_1 d_1 pal0 hk1.1 hk1.2 ha1.1 ha1.2 hb1.1 hb1.2 hc1.1 hc1.2 hd1.1 hd1.2).mono fun e W' ⟨he, bel⟩ => ?_
  subst he
  exact ⟨_, rfl, _, _, _, [], _, [], hW', trodAll_mk1 (shut_bool Try.underlying4 _), (trodAll_cons_mk (Below.trod laidOut (by kernel_rfl) (of_decide_eq_true (by kernel_rfl)) k0 bel lt0) (trodAll_cons_mk (Below.trod laidOut (by kernel_rfl) (of_decide_eq_true (by kernel_rfl)) k1 bel lt1) trodAll_mk0)), rfl, bel.frame _, fun h => by cases h⟩
theorem over : Rows.fnIndexInAnyOrderRow.holds Try.pinned (OpenSpec.ofChange Rows.fnIndexInAnyOrderSpec) :=
  OpenClaim.holds_of_wide 7 Try.f7 rfl rfl rfl rfl rfl rfl rfl ⟨rfl, rfl, rfl, rfl, rfl⟩ rfl rfl rfl rfl rfl (by kernel_rfl) Try.func7 (by kernel_rfl)
    (of_decide_eq_true (by kernel_rfl)) (by unfold Func.isWrapper; first | (rw [if_pos (by decide +kernel)]; kernel_rfl) | (rw [if_neg (by decide +kernel)]; exact ⟨rfl, rfl⟩))
    (fun os started H enc _ => lifted os started H enc)
end FnIndexInAnyOrderFrame
/-- THE STATEMENT. -/
theorem FnIndexInAnyOrder_holds : Rows.FnIndexInAnyOrderSaid := FnIndexInAnyOrderFrame.over
#print axioms FnIndexInAnyOrder_holds
end Go.Proofs.Ytbehpaclnpildaa
