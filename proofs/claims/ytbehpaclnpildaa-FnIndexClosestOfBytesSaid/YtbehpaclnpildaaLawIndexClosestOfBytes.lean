/- Of colors whose components have 8 bits none is closer to a color than the one whose index is told: FnIndexClosestOfBytes returns true for every palette and every color. No conditions. -/
import Derived.Test.YtbehpaclnpildaaLawPal
import Derived.Deep.DeepCutAuto
import Derived.Deep.RegionHeld3
import Derived.Deep.QuietTactic
import Derived.BigQuiet
import Derived.Test.YtbehpaclnpildaaLawClo
namespace Go.Proofs.Ytbehpaclnpildaa
open Go.ChangeShapes Go.WideShapes Go.ChangeAt Go.RowKit Plain
set_option linter.unusedVariables false
theorem FnIndexClosestOfBytes_empty (a0 : Option Addr) (cap : Nat) (y : Col) (w : World) : Calls Try.prog 4 #[.slice a0 0 cap, .agg #[.int .i64 y.k, .int .u16 y.a, .int .u16 y.b, .int .u16 y.c, .int .u16 y.d]] w fun e w' => e = .returned (.bool true) ∧ Below w.heap.size w w' := by
  have E := Lib.hid (fun w => small_empty a0 cap y w)
  go_enter Try.func4, Try.ntmps4
  go_wp2_with fail
  refine (E.out _).mono ?_
  rintro e w1 ⟨rfl, b1⟩
  go_wp2_with fail
  go_ret
  exact ⟨rfl, later b1 (laterAlloc (Below.refl _ _) _)⟩
theorem FnIndexClosestOfBytes_long (B off len cap : Nat) (y : Col) (w : World) (hl : 2147483647 < len) (hm : len ≤ 9223372036854775807) : Calls Try.prog 4 #[.slice (some ⟨B, off, none⟩) len cap, .agg #[.int .i64 y.k, .int .u16 y.a, .int .u16 y.b, .int .u16 y.c, .int .u16 y.d]] w fun e w' => e = .returned (.bool true) ∧ Below w.heap.size w w' := by
  go_enter Try.func4, Try.ntmps4
  go_wp2_with fail
  go_ret
  exact ⟨rfl, laterAlloc (Below.refl _ _) _⟩
theorem FnIndexClosestOfBytes_not (B off len cap : Nat) (ps : List Col) (y : Col) (w : World) (hp : PalAt w B off ps) (hlen : ps.length = len) (hpos : 0 < len) (hm : len ≤ 2147483647) (hyf : y.fits) (hn : ¬ (y.small ∧ ∀ x ∈ ps, x.small)) : Calls Try.prog 4 #[.slice (some ⟨B, off, none⟩) len cap, .agg #[.int .i64 y.k, .int .u16 y.a, .int .u16 y.b, .int .u16 y.c, .int .u16 y.d]] w fun e w' => e = .returned (.bool true) ∧ Below w.heap.size w w' := by
  have N := Lib.hid (fun w hp => small_no B off len cap ps y w hp hlen hpos hm hyf hn)
  have HP := Lib.hid hp
  clear hp hn hyf hlen
  go_enter Try.func4, Try.ntmps4
  go_wp2_with fail
  refine (N.out _ HP.out.alloc).mono ?_
  rintro e w1 ⟨rfl, b1⟩
  go_wp2_with fail
  go_ret
  exact ⟨rfl, later b1 (laterAlloc (Below.refl _ _) _)⟩
set_option maxHeartbeats 4000000 in
theorem FnIndexClosestOfBytes_main (B off len cap : Nat) (ps : List Col) (y : Col) (w : World) (hp : PalAt w B off ps) (hlen : ps.length = len) (hpos : 0 < len) (hm : len ≤ 2147483647) (hy : y.small) (hv : ∀ x ∈ ps, x.small) : Calls Try.prog 4 #[.slice (some ⟨B, off, none⟩) len cap, .agg #[.int .i64 y.k, .int .u16 y.a, .int .u16 y.b, .int .u16 y.c, .int .u16 y.d]] w fun e w' => e = .returned (.bool true) ∧ Below w.heap.size w w' := by
  have hyv : y.valid := hy.valid
  have hvv : ∀ x ∈ ps, x.valid := (fun x hx => (hv x hx).valid)
  obtain ⟨z, hz, _⟩ := best_least hyv hvv (by omega)
  have hzv := hvv z (List.mem_of_getElem? hz)
  have hb : best y ps < len := by rw [← hlen]; exact best_lt hyv hvv (by omega)
  have Y := Lib.hid (fun w hp => small_yes B off len cap ps y w hp hlen hpos hm hy hv)
  have I := Lib.hid (fun w hp => implIndex B off len cap ps y w hp hvv hyv hlen hpos (by omega))
  have V := Lib.hid (fun w => implValues y.k y.a y.b y.c y.d w hyv)
  have Vz := Lib.hid (fun w => implValues z.k z.a z.b z.c z.d w hzv)
  have Dz := Lib.hid (fun w => distCols z y w hzv hyv)
  have E := Lib.hid (fun w (hp : PalAt w B off ps) g0 g1 (hvl : ValsAt w g0 y) (hd : w.cell? ⟨g1, 0, none⟩ = some (.int .i64 (distOf z y))) => contains_none_bytes B off len cap ps ⟨g0, 0, none⟩ ⟨g1, 0, none⟩ w hp hlen hm (fun x hx wx hbx => bytes_1 x y (distOf z y) g0 g1 wx (hvv x hx) hyv (hvl.call hbx) (cell_later hbx hd) (by have := best_small hy hv (by omega) hz x hx; omega)))
  have HP := Lib.hid hp
  have HL := Lib.hid hlen
  have HZ := Lib.hid hz
  clear hp hy hv hlen hz hyv hvv hzv
  go_enter Try.func4, Try.ntmps4
  go_wp2_with fail
  generalize hw0 : w.alloc (.cells #[.int .i64 y.k, .int .u16 y.a, .int .u16 y.b, .int .u16 y.c, .int .u16 y.d] 26 (0, 0)) = w0
  have c0 : ∀ w', Since w0 w' → w'.cell? ⟨w.heap.size, 0, none⟩ = some (.int .i64 y.k) := fun w' h => cell_later h.below (by rw [← hw0]; simp [go_sem])
  have c1 : ∀ w', Since w0 w' → w'.cell? ⟨w.heap.size, 1, none⟩ = some (.int .u16 y.a) := fun w' h => cell_later h.below (by rw [← hw0]; simp [go_sem])
  have c2 : ∀ w', Since w0 w' → w'.cell? ⟨w.heap.size, 2, none⟩ = some (.int .u16 y.b) := fun w' h => cell_later h.below (by rw [← hw0]; simp [go_sem])
  have c3 : ∀ w', Since w0 w' → w'.cell? ⟨w.heap.size, 3, none⟩ = some (.int .u16 y.c) := fun w' h => cell_later h.below (by rw [← hw0]; simp [go_sem])
  have c4 : ∀ w', Since w0 w' → w'.cell? ⟨w.heap.size, 4, none⟩ = some (.int .u16 y.d) := fun w' h => cell_later h.below (by rw [← hw0]; simp [go_sem])
  have hB0 : Below w.heap.size w w0 := by rw [← hw0]; exact laterAlloc (Below.refl _ _) _
  have HS := Lib.hid (show w.heap.size < w0.heap.size by rw [← hw0]; simp)
  clear hw0
  refine (Y.out _ (HP.out.call hB0)).mono ?_
  rintro e w1 ⟨rfl, b1⟩
  have n1 : Since w0 w1 := b1
  clear b1
  have hS0 := HS.out
  have hS1 := n1.size
  go_upto_region 5 with (fail)
  go_cut [5, 6] (fun v5 v6 wx => ∃ g : Nat, v5 = .int .i64 (best y ps) ∧ v6 = .pointer (some ⟨g, 0, none⟩) ∧ Since w0 wx ∧ ValsAt wx g y)
  case first =>
    go_region_held3 (fun w' => Since w0 w')
      (first | with_reducible assumption | with_reducible exact Since.call (by with_reducible assumption) (by with_reducible assumption) | with_reducible exact Since.drew (Since.up (Since.undrew (by with_reducible assumption))) | with_reducible exact (Since.up (by with_reducible assumption)) | with_reducible exact (Since.up (Since.down (by first | omega | (simp; done) | (simp; omega)) (by with_reducible assumption))) | with_reducible exact (Since.up (Since.up (Since.down (by first | omega | (simp; done) | (simp; omega)) (Since.down (by first | omega | (simp; done) | (simp; omega)) (by with_reducible assumption))))) | with_reducible exact Since.drew (by with_reducible assumption) | with_reducible exact (Since.set (by first | omega | (simp; done) | (simp; omega)) (Since.set (by first | omega | (simp; done) | (simp; omega)) (Since.set (by first | omega | (simp; done) | (simp; omega)) (Since.set (by first | omega | (simp; done) | (simp; omega)) (by with_reducible assumption))))) | with_reducible exact (Since.up (Since.set (by first | omega | (simp; done) | (simp; omega)) (Since.set (by first | omega | (simp; done) | (simp; omega)) (Since.set (by first | omega | (simp; done) | (simp; omega)) (Since.set (by first | omega | (simp; done) | (simp; omega)) (Since.down (by first | omega | (simp; done) | (simp; omega)) (by with_reducible assumption))))))))
      (first | (go_at_call 12; refine (I.out _ (HP.out.call (later (Since.below (by with_reducible assumption)) hB0))).mono ?_; rintro e w' ⟨rfl, hb⟩; obtain ⟨cc, cf⟩ := bcell hb; have hzz := hb.size; (try simp at hzz); (try (first | have hz8 := Nat.lt_of_lt_of_le hz6 hzz | have hz8 := Nat.lt_trans hz6 hzz | have hz8 := Nat.lt_of_lt_of_le hz6 (Nat.le_of_succ_le hzz) | have hz8 := Nat.lt_of_lt_of_le hz6 (Nat.le_of_succ_le (Nat.le_of_succ_le hzz)))); (try (first | have hz9 := Nat.lt_of_lt_of_le hz7 hzz | have hz9 := Nat.lt_trans hz7 hzz | have hz9 := Nat.lt_of_lt_of_le hz7 (Nat.le_of_succ_le hzz) | have hz9 := Nat.lt_of_lt_of_le hz7 (Nat.le_of_succ_le (Nat.le_of_succ_le hzz)))); (try (first | have hz6 := Nat.lt_of_lt_of_le hz2 hzz | have hz6 := Nat.lt_trans hz2 hzz | have hz6 := Nat.lt_of_lt_of_le hz2 (Nat.le_of_succ_le hzz) | have hz6 := Nat.lt_of_lt_of_le hz2 (Nat.le_of_succ_le (Nat.le_of_succ_le hzz)))); (try (first | have hz7 := Nat.lt_of_lt_of_le hz3 hzz | have hz7 := Nat.lt_trans hz3 hzz | have hz7 := Nat.lt_of_lt_of_le hz3 (Nat.le_of_succ_le hzz) | have hz7 := Nat.lt_of_lt_of_le hz3 (Nat.le_of_succ_le (Nat.le_of_succ_le hzz)))); (try (have hz2 := Nat.lt_of_lt_of_le (Nat.lt_succ_self _) hzz)); (try (have hz3 := Nat.lt_of_succ_lt hz2)); (try (have hz2n := Nat.ne_of_lt hz2; have hz2m := Nat.ne_of_gt hz2)); (try (have hz3n := Nat.ne_of_lt hz3; have hz3m := Nat.ne_of_gt hz3)); (try (have hz6n := Nat.ne_of_lt hz6; have hz6m := Nat.ne_of_gt hz6)); (try (have hz7n := Nat.ne_of_lt hz7; have hz7m := Nat.ne_of_gt hz7)); (try (have hz8n := Nat.ne_of_lt hz8; have hz8m := Nat.ne_of_gt hz8)); (try (have hz9n := Nat.ne_of_lt hz9; have hz9m := Nat.ne_of_gt hz9))) | (go_at_call 13; (with_reducible refine (V.out _).mono ?_); rintro e w' ⟨rfl, hb⟩; obtain ⟨cc, cf⟩ := bcell hb; have hzz := hb.size; (try simp at hzz); (try (first | have hz8 := Nat.lt_of_lt_of_le hz6 hzz | have hz8 := Nat.lt_trans hz6 hzz | have hz8 := Nat.lt_of_lt_of_le hz6 (Nat.le_of_succ_le hzz) | have hz8 := Nat.lt_of_lt_of_le hz6 (Nat.le_of_succ_le (Nat.le_of_succ_le hzz)))); (try (first | have hz9 := Nat.lt_of_lt_of_le hz7 hzz | have hz9 := Nat.lt_trans hz7 hzz | have hz9 := Nat.lt_of_lt_of_le hz7 (Nat.le_of_succ_le hzz) | have hz9 := Nat.lt_of_lt_of_le hz7 (Nat.le_of_succ_le (Nat.le_of_succ_le hzz)))); (try (first | have hz6 := Nat.lt_of_lt_of_le hz2 hzz | have hz6 := Nat.lt_trans hz2 hzz | have hz6 := Nat.lt_of_lt_of_le hz2 (Nat.le_of_succ_le hzz) | have hz6 := Nat.lt_of_lt_of_le hz2 (Nat.le_of_succ_le (Nat.le_of_succ_le hzz)))); (try (first | have hz7 := Nat.lt_of_lt_of_le hz3 hzz | have hz7 := Nat.lt_trans hz3 hzz | have hz7 := Nat.lt_of_lt_of_le hz3 (Nat.le_of_succ_le hzz) | have hz7 := Nat.lt_of_lt_of_le hz3 (Nat.le_of_succ_le (Nat.le_of_succ_le hzz)))); (try (have hz2 := Nat.lt_of_lt_of_le (Nat.lt_succ_self _) hzz)); (try (have hz3 := Nat.lt_of_succ_lt hz2)); (try (have hz2n := Nat.ne_of_lt hz2; have hz2m := Nat.ne_of_gt hz2)); (try (have hz3n := Nat.ne_of_lt hz3; have hz3m := Nat.ne_of_gt hz3)); (try (have hz6n := Nat.ne_of_lt hz6; have hz6m := Nat.ne_of_gt hz6)); (try (have hz7n := Nat.ne_of_lt hz7; have hz7m := Nat.ne_of_gt hz7)); (try (have hz8n := Nat.ne_of_lt hz8; have hz8m := Nat.ne_of_gt hz8)); (try (have hz9n := Nat.ne_of_lt hz9; have hz9m := Nat.ne_of_gt hz9))))
    all_goals (rename_i hH; go_wp2_with fail; go_meet; refine ⟨_, rfl, rfl, hH, ?_⟩; clear hH c0 c1 c2 c3 c4; refine ⟨?_, ?_, ?_, ?_⟩ <;> (first | (simp [go_sem, *]; done) | (simp (maxDischargeDepth := 12) [go_sem, *]; done)))
  case rest =>
    obtain ⟨g, rfl, rfl, n4, hvl⟩ := hcut
    obtain ⟨wb, rfl⟩ : ∃ wb : World, wb = wc := ⟨_, rfl⟩
    have hvl' := hvl
    obtain ⟨y0, y1, y2, y3⟩ := hvl'
    have hP4 := HP.out.call (later n4.below hB0)
    obtain ⟨q0, q1, q2, q3, q4⟩ := hP4.cells HZ.out
    clear c0 c1 c2 c3 c4 n1 hS0 hS1 I V Y HS
    have p0 : ∀ w', Since wb w' → w'.cell? ⟨B, off + best y ps * 5, none⟩ = some (.int .i64 z.k) := fun w' h => cell_later h.below q0
    have p1 : ∀ w', Since wb w' → w'.cell? ⟨B, off + best y ps * 5 + 1, none⟩ = some (.int .u16 z.a) := fun w' h => cell_later h.below q1
    have p2 : ∀ w', Since wb w' → w'.cell? ⟨B, off + best y ps * 5 + 2, none⟩ = some (.int .u16 z.b) := fun w' h => cell_later h.below q2
    have p3 : ∀ w', Since wb w' → w'.cell? ⟨B, off + best y ps * 5 + 3, none⟩ = some (.int .u16 z.c) := fun w' h => cell_later h.below q3
    have p4 : ∀ w', Since wb w' → w'.cell? ⟨B, off + best y ps * 5 + 4, none⟩ = some (.int .u16 z.d) := fun w' h => cell_later h.below q4
    have v0 : ∀ w', Since wb w' → w'.cell? ⟨g, 0, none⟩ = some (.int .u32 (vR y.k y.a y.b y.c y.d)) := fun w' h => cell_later h.below y0
    have v1 : ∀ w', Since wb w' → w'.cell? ⟨g, 1, none⟩ = some (.int .u32 (vG y.k y.a y.b y.c y.d)) := fun w' h => cell_later h.below y1
    have v2 : ∀ w', Since wb w' → w'.cell? ⟨g, 2, none⟩ = some (.int .u32 (vB y.k y.a y.b y.c y.d)) := fun w' h => cell_later h.below y2
    have v3 : ∀ w', Since wb w' → w'.cell? ⟨g, 3, none⟩ = some (.int .u32 (vA y.k y.a y.b y.c y.d)) := fun w' h => cell_later h.below y3
    have HQ := Lib.hid hP4
    have HVL := Lib.hid hvl
    clear q0 q1 q2 q3 q4 y0 y1 y2 y3 hP4 hvl
    have m0 := Since.refl wb
    go_upto_region 8 with (fail)
    go_cut [7] (fun v7 wx => ∃ g1 : Nat, v7 = .pointer (some ⟨g1, 0, none⟩) ∧ Since wb wx ∧ wx.cell? ⟨g1, 0, none⟩ = some (.int .i64 (distOf z y)))
    case first =>
      go_region_held3 (fun w' => Since wb w')
        (first | with_reducible assumption | with_reducible exact Since.call (by with_reducible assumption) (by with_reducible assumption) | with_reducible exact Since.drew (Since.up (Since.undrew (by with_reducible assumption))) | with_reducible exact (Since.up (by with_reducible assumption)) | with_reducible exact (Since.up (Since.down (by first | omega | (simp; done) | (simp; omega)) (by with_reducible assumption))) | with_reducible exact (Since.up (Since.up (Since.down (by first | omega | (simp; done) | (simp; omega)) (Since.down (by first | omega | (simp; done) | (simp; omega)) (by with_reducible assumption))))) | with_reducible exact Since.drew (by with_reducible assumption) | with_reducible exact (Since.set (by first | omega | (simp; done) | (simp; omega)) (by with_reducible assumption)) | with_reducible exact (Since.up (Since.set (by first | omega | (simp; done) | (simp; omega)) (Since.down (by first | omega | (simp; done) | (simp; omega)) (by with_reducible assumption)))))
        (first | (go_at_call 13; (with_reducible refine (Vz.out _).mono ?_); rintro e w' ⟨rfl, hb⟩; obtain ⟨cc, cf⟩ := bcell hb; have hzz := hb.size; (try simp at hzz); (try (first | have hz8 := Nat.lt_of_lt_of_le hz6 hzz | have hz8 := Nat.lt_trans hz6 hzz | have hz8 := Nat.lt_of_lt_of_le hz6 (Nat.le_of_succ_le hzz) | have hz8 := Nat.lt_of_lt_of_le hz6 (Nat.le_of_succ_le (Nat.le_of_succ_le hzz)))); (try (first | have hz9 := Nat.lt_of_lt_of_le hz7 hzz | have hz9 := Nat.lt_trans hz7 hzz | have hz9 := Nat.lt_of_lt_of_le hz7 (Nat.le_of_succ_le hzz) | have hz9 := Nat.lt_of_lt_of_le hz7 (Nat.le_of_succ_le (Nat.le_of_succ_le hzz)))); (try (first | have hz6 := Nat.lt_of_lt_of_le hz2 hzz | have hz6 := Nat.lt_trans hz2 hzz | have hz6 := Nat.lt_of_lt_of_le hz2 (Nat.le_of_succ_le hzz) | have hz6 := Nat.lt_of_lt_of_le hz2 (Nat.le_of_succ_le (Nat.le_of_succ_le hzz)))); (try (first | have hz7 := Nat.lt_of_lt_of_le hz3 hzz | have hz7 := Nat.lt_trans hz3 hzz | have hz7 := Nat.lt_of_lt_of_le hz3 (Nat.le_of_succ_le hzz) | have hz7 := Nat.lt_of_lt_of_le hz3 (Nat.le_of_succ_le (Nat.le_of_succ_le hzz)))); (try (have hz2 := Nat.lt_of_lt_of_le (Nat.lt_succ_self _) hzz)); (try (have hz3 := Nat.lt_of_succ_lt hz2)); (try (have hz2n := Nat.ne_of_lt hz2; have hz2m := Nat.ne_of_gt hz2)); (try (have hz3n := Nat.ne_of_lt hz3; have hz3m := Nat.ne_of_gt hz3)); (try (have hz6n := Nat.ne_of_lt hz6; have hz6m := Nat.ne_of_gt hz6)); (try (have hz7n := Nat.ne_of_lt hz7; have hz7m := Nat.ne_of_gt hz7)); (try (have hz8n := Nat.ne_of_lt hz8; have hz8m := Nat.ne_of_gt hz8)); (try (have hz9n := Nat.ne_of_lt hz9; have hz9m := Nat.ne_of_gt hz9))) | (go_at_call 14; (with_reducible refine (Dz.out _).mono ?_); rintro e w' ⟨rfl, hb⟩; obtain ⟨cc, cf⟩ := bcell hb; have hzz := hb.size; (try simp at hzz); (try (first | have hz8 := Nat.lt_of_lt_of_le hz6 hzz | have hz8 := Nat.lt_trans hz6 hzz | have hz8 := Nat.lt_of_lt_of_le hz6 (Nat.le_of_succ_le hzz) | have hz8 := Nat.lt_of_lt_of_le hz6 (Nat.le_of_succ_le (Nat.le_of_succ_le hzz)))); (try (first | have hz9 := Nat.lt_of_lt_of_le hz7 hzz | have hz9 := Nat.lt_trans hz7 hzz | have hz9 := Nat.lt_of_lt_of_le hz7 (Nat.le_of_succ_le hzz) | have hz9 := Nat.lt_of_lt_of_le hz7 (Nat.le_of_succ_le (Nat.le_of_succ_le hzz)))); (try (first | have hz6 := Nat.lt_of_lt_of_le hz2 hzz | have hz6 := Nat.lt_trans hz2 hzz | have hz6 := Nat.lt_of_lt_of_le hz2 (Nat.le_of_succ_le hzz) | have hz6 := Nat.lt_of_lt_of_le hz2 (Nat.le_of_succ_le (Nat.le_of_succ_le hzz)))); (try (first | have hz7 := Nat.lt_of_lt_of_le hz3 hzz | have hz7 := Nat.lt_trans hz3 hzz | have hz7 := Nat.lt_of_lt_of_le hz3 (Nat.le_of_succ_le hzz) | have hz7 := Nat.lt_of_lt_of_le hz3 (Nat.le_of_succ_le (Nat.le_of_succ_le hzz)))); (try (have hz2 := Nat.lt_of_lt_of_le (Nat.lt_succ_self _) hzz)); (try (have hz3 := Nat.lt_of_succ_lt hz2)); (try (have hz2n := Nat.ne_of_lt hz2; have hz2m := Nat.ne_of_gt hz2)); (try (have hz3n := Nat.ne_of_lt hz3; have hz3m := Nat.ne_of_gt hz3)); (try (have hz6n := Nat.ne_of_lt hz6; have hz6m := Nat.ne_of_gt hz6)); (try (have hz7n := Nat.ne_of_lt hz7; have hz7m := Nat.ne_of_gt hz7)); (try (have hz8n := Nat.ne_of_lt hz8; have hz8m := Nat.ne_of_gt hz8)); (try (have hz9n := Nat.ne_of_lt hz9; have hz9m := Nat.ne_of_gt hz9))))
      all_goals (rename_i hH; go_wp2_with fail; go_meet; refine ⟨_, rfl, hH, ?_⟩; clear hH p0 p1 p2 p3 p4 v0 v1 v2 v3; first | (simp [go_sem, *]; done) | (simp (maxDischargeDepth := 12) [go_sem, *]; done))
    case rest =>
      obtain ⟨g1, rfl, n5, hd⟩ := hcut
      have HD := Lib.hid hd
      clear hd m0 p0 p1 p2 p3 p4 v0 v1 v2 v3
      go_wp2_with fail
      refine (E.out _ (HQ.out.call n5.below) _ _ (HVL.out.call n5.below) HD.out).mono ?_
      rintro e w6 ⟨rfl, b6⟩
      go_wp2_with fail
      go_ret
      exact ⟨rfl, later b6 (later n5.below (later n4.below hB0))⟩
theorem FnIndexClosestOfBytes_walk (w : World) (v : Value) (k a b c d : Int) (hp : IsPal w v) (hk0 : -9223372036854775808 ≤ k) (hk1 : k ≤ 9223372036854775807) (ha0 : 0 ≤ a) (ha1 : a ≤ 65535) (hb0 : 0 ≤ b) (hb1 : b ≤ 65535) (hc0 : 0 ≤ c) (hc1 : c ≤ 65535) (hd0 : 0 ≤ d) (hd1 : d ≤ 65535) : Calls Try.prog 4 #[v, .agg #[.int .i64 k, .int .u16 a, .int .u16 b, .int .u16 c, .int .u16 d]] w fun e w' => e = .returned (.bool true) ∧ Below w.heap.size w w' := by
  have hyf : (⟨k, a, b, c, d⟩ : Col).fits := ⟨⟨hk0, hk1⟩, ⟨ha0, ha1⟩, ⟨hb0, hb1⟩, ⟨hc0, hc1⟩, ⟨hd0, hd1⟩⟩
  rcases hp with ⟨a0, cap, rfl⟩ | ⟨B, off, len, cap, ps, rfl, hlen, hpos, hL, hp⟩
  · exact FnIndexClosestOfBytes_empty a0 cap ⟨k, a, b, c, d⟩ w
  by_cases hm : len ≤ 2147483647
  · by_cases hn : (⟨k, a, b, c, d⟩ : Col).small ∧ ∀ x ∈ ps, x.small
    · exact FnIndexClosestOfBytes_main B off len cap ps ⟨k, a, b, c, d⟩ w hp hlen hpos hm hn.1 hn.2
    · exact FnIndexClosestOfBytes_not B off len cap ps ⟨k, a, b, c, d⟩ w hp hlen hpos hm hyf hn
  · exact FnIndexClosestOfBytes_long B off len cap ⟨k, a, b, c, d⟩ w (by omega) hL
/-! ### The row's step, for FnIndexClosestOfBytes. -/
namespace FnIndexClosestOfBytesFrame
open Go.ChangeShapes Go.WideShapes Go.ChangeAt Go.RowKit
theorem own : ownKnob Try.prog.godebug = none := by kernel_rfl
theorem laidOut : laidOutB Try.prog = true := by kernel_rfl
set_option maxRecDepth 100000 in
theorem lifted (os : Os) (started : os.Started) (H : Type) (enc : TypeId × Value → H) :
    ReturnsInHanded {} Try.checked os 4 .any (Rows.fnIndexClosestOfBytesSpec.pre6 enc Try.prog Try.f4 Rows.fnIndexClosestOfBytesRow.domain false) (Rows.fnIndexClosestOfBytesSpec.post enc Try.prog Try.f4 false true false false) := by
  refine returnsInHanded_of_change (C := Try.checked) own started (by kernel_rfl) Try.func4
    (ChangeSpec.witness6 (enc := enc) (C := Try.checked) false ⟨#[], #[.slice none 0 0, .agg #[.int .i64 0, .int .u16 0, .int .u16 0, .int .u16 0, .int .u16 0]], []⟩ 8 (by kernel_rfl) (by kernel_rfl) (by kernel_rfl) (by kernel_rfl)) ?_
  intro W base args ds gs before hval0 hW hcnd _
  have hval : ∀ (j : Nat) t v, Try.f4.params[j]? = some t → args[j]? = some v → Value.okWide Try.prog W .any base t v := hval0
  have hW' := hW
  obtain ⟨p, q, hA0, hV, rfl, hfz, hnd⟩ := hW
  have hA : DataW.TrodAll enc Try.prog W 0 (fun _ => true) true Try.f4.params.toList args.toList ds p := hA0
  rw [Try.params4] at hA hval
  obtain ⟨v0, vs0, d0, ds0, p0, q0, hargs, rfl, rfl, h0, r0⟩ := trodAll_cons hA
  obtain ⟨v1, vs1, d1, ds1, p1, q1, rfl, rfl, rfl, h1, r1⟩ := trodAll_cons r0
  obtain ⟨rfl, rfl, rfl⟩ := trodAll_nil r1
  obtain rfl : args = #[v0, v1] := by cases args; simp_all
  obtain ⟨rfl, rfl⟩ := trodVars_none hV
  have k0 := h0
  have lt0 : ∀ x ∈ p0, x.block < W.heap.size := by obtain ⟨m, hm⟩ := k0; exact DataW.trod_lt m _ _ _ hm
  have pal0 := open_palV (hval 0 22 v0 rfl rfl) h0
  have k1 := h1
  have lt1 : ∀ x ∈ p1, x.block < W.heap.size := by obtain ⟨m, hm⟩ := k1; exact DataW.trod_lt m _ _ _ hm
  obtain ⟨k_1, a_1, b_1, c_1, d_1, rfl, hk1, ha1, hb1, hc1, hd1⟩ := open_color (hval 1 26 v1 rfl rfl) h1
  clear hA0 hval0
  refine (FnIndexClosestOfBytes_walk W v0 k_1 a_1 b_1 c_1 d_1 pal0 hk1.1 hk1.2 ha1.1 ha1.2 hb1.1 hb1.2 hc1.1 hc1.2 hd1.1 hd1.2).mono fun e W' ⟨he, bel⟩ => ?_
  subst he
  exact ⟨_, rfl, _, _, _, [], _, [], hW', trodAll_mk1 (shut_bool Try.underlying4 _), (trodAll_cons_mk (Below.trod laidOut (by kernel_rfl) (of_decide_eq_true (by kernel_rfl)) k0 bel lt0) (trodAll_cons_mk (Below.trod laidOut (by kernel_rfl) (of_decide_eq_true (by kernel_rfl)) k1 bel lt1) trodAll_mk0)), rfl, bel.frame _, fun h => by cases h⟩
theorem over : Rows.fnIndexClosestOfBytesRow.holds Try.pinned (OpenSpec.ofChange Rows.fnIndexClosestOfBytesSpec) :=
  OpenClaim.holds_of_wide 4 Try.f4 rfl rfl rfl rfl rfl rfl rfl ⟨rfl, rfl, rfl, rfl, rfl⟩ rfl rfl rfl rfl rfl (by kernel_rfl) Try.func4 (by kernel_rfl)
    (of_decide_eq_true (by kernel_rfl)) (by unfold Func.isWrapper; first | (rw [if_pos (by decide +kernel)]; kernel_rfl) | (rw [if_neg (by decide +kernel)]; exact ⟨rfl, rfl⟩))
    (fun os started H enc _ => lifted os started H enc)
end FnIndexClosestOfBytesFrame
/-- THE STATEMENT. -/
theorem FnIndexClosestOfBytes_holds : Rows.FnIndexClosestOfBytesSaid := FnIndexClosestOfBytesFrame.over
#print axioms FnIndexClosestOfBytes_holds
end Go.Proofs.Ytbehpaclnpildaa
