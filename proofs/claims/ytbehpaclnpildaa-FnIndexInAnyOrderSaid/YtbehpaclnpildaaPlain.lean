/- Plain functions on integers and their laws: no program in sight. -/
namespace Go.Proofs.Ytbehpaclnpildaa.Plain

/-- What one ink and black leave of the light, of 16 bits (as the code reckons it). -/
def ink16 (c k : Int) : Int := (65535 - c * 257) * (65535 - k * 257) % 4294967296 / 65535
/-- The same, of 8 bits. -/
def ink8 (c k : Int) : Int := (65535 - c * 257) * (65535 - k * 257) % 4294967296 / 65535 / 256 % 256

theorem mul_range {x y : Int} (hx0 : 0 ≤ x) (hx1 : x ≤ 65535) (hy0 : 0 ≤ y) (hy1 : y ≤ 65535) : 0 ≤ x * y ∧ x * y ≤ 65535 * 65535 :=
  ⟨Int.mul_nonneg hx0 hy0, Int.mul_le_mul hx1 hy1 hy0 (by omega)⟩

theorem ink16_plain {c k : Int} (hc0 : 0 ≤ c) (hc1 : c ≤ 255) (hk0 : 0 ≤ k) (hk1 : k ≤ 255) : ink16 c k = (65535 - c * 257) * (65535 - k * 257) / 65535 := by
  obtain ⟨h0, h1⟩ := mul_range (x := 65535 - c * 257) (y := 65535 - k * 257) (by omega) (by omega) (by omega) (by omega)
  unfold ink16
  generalize (65535 - c * 257) * (65535 - k * 257) = m at *
  omega

theorem ink16_range {c k : Int} (hc0 : 0 ≤ c) (hc1 : c ≤ 255) (hk0 : 0 ≤ k) (hk1 : k ≤ 255) : 0 ≤ ink16 c k ∧ ink16 c k ≤ 65535 := by
  obtain ⟨h0, h1⟩ := mul_range (x := 65535 - c * 257) (y := 65535 - k * 257) (by omega) (by omega) (by omega) (by omega)
  rw [ink16_plain hc0 hc1 hk0 hk1]
  generalize (65535 - c * 257) * (65535 - k * 257) = m at *
  omega

theorem ink8_eq {c k : Int} (hc0 : 0 ≤ c) (hc1 : c ≤ 255) (hk0 : 0 ≤ k) (hk1 : k ≤ 255) : ink8 c k = ink16 c k / 256 := by
  have h := ink16_range hc0 hc1 hk0 hk1
  have e : ink8 c k = ink16 c k / 256 % 256 := rfl
  omega

/-- More ink does not give more light. -/
theorem ink8_mono {c k c' k' : Int} (hc0 : 0 ≤ c) (hk0 : 0 ≤ k) (hc : c ≤ c') (hk : k ≤ k') (hc1 : c' ≤ 255) (hk1 : k' ≤ 255) : ink8 c' k' ≤ ink8 c k := by
  rw [ink8_eq (by omega) hc1 (by omega) hk1, ink8_eq hc0 (by omega) hk0 (by omega), ink16_plain (by omega) hc1 (by omega) hk1, ink16_plain hc0 (by omega) hk0 (by omega)]
  have h : (65535 - c' * 257) * (65535 - k' * 257) ≤ (65535 - c * 257) * (65535 - k * 257) := Int.mul_le_mul (by omega) (by omega) (by omega) (by omega)
  generalize (65535 - c * 257) * (65535 - k * 257) = m at *
  generalize (65535 - c' * 257) * (65535 - k' * 257) = m' at *
  omega

def cl8 (v : Int) : Int := if v < 0 then 0 else if v < 16777216 then v / 65536 else 255
def cl16 (v : Int) : Int := if v < 0 then 0 else if v < 16777216 then v / 256 else 65535
def lumaOf (r g b : Int) : Int := (19595 * r + 38470 * g + 7471 * b + 32768) / 65536
def cbOf (r g b : Int) : Int := cl8 (-11056 * r - 21712 * g + 32768 * b + 8421376)
def crOf (r g b : Int) : Int := cl8 (32768 * r - 27440 * g - 5328 * b + 8421376)
def redOf (y cr : Int) : Int := cl8 (y * 65793 + 91881 * (cr - 128))
def greenOf (y cb cr : Int) : Int := cl8 (y * 65793 - 22554 * (cb - 128) - 46802 * (cr - 128))
def blueOf (y cb : Int) : Int := cl8 (y * 65793 + 116130 * (cb - 128))
theorem cl8_spec (v : Int) : (v < 0 ∧ cl8 v = 0) ∨ (0 ≤ v ∧ v < 16777216 ∧ cl8 v * 65536 ≤ v ∧ v < cl8 v * 65536 + 65536) ∨ (16777216 ≤ v ∧ cl8 v = 255) := by
  unfold cl8; split
  · omega
  · split <;> omega
theorem cl16_spec (v : Int) : (v < 0 ∧ cl16 v = 0) ∨ (0 ≤ v ∧ v < 16777216 ∧ cl16 v * 256 ≤ v ∧ v < cl16 v * 256 + 256) ∨ (16777216 ≤ v ∧ cl16 v = 65535) := by
  unfold cl16; split
  · omega
  · split <;> omega
def clamp (x : Int) : Int := min (max x 0) 25500000
def near (n exact h : Int) : Prop := -h * 1000 ≤ n * 100000 - clamp exact ∧ n * 100000 - clamp exact ≤ h * 1000
theorem luma_near (r g b : Int) (hr0 : 0 ≤ r) (hr1 : r ≤ 255) (hg0 : 0 ≤ g) (hg1 : g ≤ 255) (hb0 : 0 ≤ b) (hb1 : b ≤ 255) :
   near (lumaOf r g b) (29900 * r + 58700 * g + 11400 * b) 100 := by
  unfold near clamp lumaOf; omega
theorem cb_near (r g b : Int) (hr0 : 0 ≤ r) (hr1 : r ≤ 255) (hg0 : 0 ≤ g) (hg1 : g ≤ 255) (hb0 : 0 ≤ b) (hb1 : b ≤ 255) :
   near (cbOf r g b) (-16870 * r - 33130 * g + 50000 * b + 12800000) 100 := by
  unfold near clamp cbOf
  have h1 := cl8_spec (-11056 * r - 21712 * g + 32768 * b + 8421376)
  omega
theorem cr_near (r g b : Int) (hr0 : 0 ≤ r) (hr1 : r ≤ 255) (hg0 : 0 ≤ g) (hg1 : g ≤ 255) (hb0 : 0 ≤ b) (hb1 : b ≤ 255) :
   near (crOf r g b) (50000 * r - 41870 * g - 8130 * b + 12800000) 100 := by
  unfold near clamp crOf
  have h1 := cl8_spec (32768 * r - 27440 * g - 5328 * b + 8421376)
  omega
theorem red_near (y cr : Int) (hr0 : 0 ≤ y) (hr1 : y ≤ 255) (hg0 : 0 ≤ cr) (hg1 : cr ≤ 255) :
   near (redOf y cr) (clamp (100000 * y + 140200 * (cr - 128))) 150 := by
  unfold near clamp redOf
  have h1 := cl8_spec (y * 65793 + 91881 * (cr - 128))
  omega
theorem green_near (y cb cr : Int) (hr0 : 0 ≤ y) (hr1 : y ≤ 255) (hg0 : 0 ≤ cr) (hg1 : cr ≤ 255) (h0 : 0 ≤ cb) (h1 : cb ≤ 255) :
   near (greenOf y cb cr) (clamp (100000 * y - 34414 * (cb - 128) - 71414 * (cr - 128))) 150 := by
  unfold near clamp greenOf
  have h1 := cl8_spec (y * 65793 - 22554 * (cb - 128) - 46802 * (cr - 128))
  omega
theorem blue_near (y cb : Int) (hr0 : 0 ≤ y) (hr1 : y ≤ 255) (h0 : 0 ≤ cb) (h1 : cb ≤ 255) :
   near (blueOf y cb) (clamp (100000 * y + 177200 * (cb - 128))) 150 := by
  unfold near clamp blueOf
  have h1 := cl8_spec (y * 65793 + 116130 * (cb - 128))
  omega
theorem cl16_up (v : Int) : cl16 v / 256 = cl8 v := by
  have h1 := cl8_spec v
  have h2 := cl16_spec v
  omega
theorem cl8_mono {v v' : Int} (h : v ≤ v') : cl8 v ≤ cl8 v' := by
  have h1 := cl8_spec v
  have h2 := cl8_spec v'
  omega
theorem cl16_range (v : Int) : 0 ≤ cl16 v ∧ cl16 v ≤ 65535 := by
  have h2 := cl16_spec v
  omega
theorem cl8_range (v : Int) : 0 ≤ cl8 v ∧ cl8 v ≤ 255 := by
  have h2 := cl8_spec v
  omega
theorem gray_luma (y : Int) (h0 : 0 ≤ y) (h1 : y ≤ 255) : lumaOf y y y = y ∧ cbOf y y y = 128 ∧ crOf y y y = 128 ∧ redOf y 128 = y ∧ greenOf y 128 128 = y ∧ blueOf y 128 = y := by
  unfold lumaOf cbOf crOf redOf greenOf blueOf cl8
  omega
theorem luma_spec (r g b : Int) : lumaOf r g b * 65536 ≤ 19595 * r + 38470 * g + 7471 * b + 32768 ∧ 19595 * r + 38470 * g + 7471 * b + 32768 < lumaOf r g b * 65536 + 65536 := by
  unfold lumaOf; omega

theorem red_back (r g b : Int) (hr0 : 0 ≤ r) (hr1 : r ≤ 255) (hg0 : 0 ≤ g) (hg1 : g ≤ 255) (hb0 : 0 ≤ b) (hb1 : b ≤ 255) :
    -3 ≤ redOf (lumaOf r g b) (crOf r g b) - r ∧ redOf (lumaOf r g b) (crOf r g b) - r ≤ 3 := by
  have hl := luma_spec r g b
  unfold redOf crOf
  have h1 := cl8_spec (32768 * r - 27440 * g - 5328 * b + 8421376)
  generalize cl8 (32768 * r - 27440 * g - 5328 * b + 8421376) = cr at *
  generalize lumaOf r g b = y at *
  have h2 := cl8_spec (y * 65793 + 91881 * (cr - 128))
  generalize cl8 (y * 65793 + 91881 * (cr - 128)) = o at *
  omega

theorem green_back (r g b : Int) (hr0 : 0 ≤ r) (hr1 : r ≤ 255) (hg0 : 0 ≤ g) (hg1 : g ≤ 255) (hb0 : 0 ≤ b) (hb1 : b ≤ 255) :
    -3 ≤ greenOf (lumaOf r g b) (cbOf r g b) (crOf r g b) - g ∧ greenOf (lumaOf r g b) (cbOf r g b) (crOf r g b) - g ≤ 3 := by
  have hl := luma_spec r g b
  unfold greenOf crOf cbOf
  have h1 := cl8_spec (32768 * r - 27440 * g - 5328 * b + 8421376)
  generalize cl8 (32768 * r - 27440 * g - 5328 * b + 8421376) = cr at *
  have h3 := cl8_spec (-11056 * r - 21712 * g + 32768 * b + 8421376)
  generalize cl8 (-11056 * r - 21712 * g + 32768 * b + 8421376) = cb at *
  generalize lumaOf r g b = y at *
  have h2 := cl8_spec (y * 65793 - 22554 * (cb - 128) - 46802 * (cr - 128))
  generalize cl8 (y * 65793 - 22554 * (cb - 128) - 46802 * (cr - 128)) = o at *
  omega
theorem blue_back (r g b : Int) (hr0 : 0 ≤ r) (hr1 : r ≤ 255) (hg0 : 0 ≤ g) (hg1 : g ≤ 255) (hb0 : 0 ≤ b) (hb1 : b ≤ 255) :
    -3 ≤ blueOf (lumaOf r g b) (cbOf r g b) - b ∧ blueOf (lumaOf r g b) (cbOf r g b) - b ≤ 3 := by
  have hl := luma_spec r g b
  unfold blueOf cbOf
  have h1 := cl8_spec (-11056 * r - 21712 * g + 32768 * b + 8421376)
  generalize cl8 (-11056 * r - 21712 * g + 32768 * b + 8421376) = cb at *
  generalize lumaOf r g b = y at *
  have h2 := cl8_spec (y * 65793 + 116130 * (cb - 128))
  generalize cl8 (y * 65793 + 116130 * (cb - 128)) = o at *
  omega
theorem cmyk_back (r w : Int) (h0 : 0 ≤ r) (h1 : r ≤ w) (hw0 : 0 < w) (hw : w ≤ 255) :
   r ≤ (65535 - (w - r) * 255 / w * 257) * (65535 - (255 - w) * 257) % 4294967296 / 65535 / 256 % 256 ∧ (65535 - (w - r) * 255 / w * 257) * (65535 - (255 - w) * 257) % 4294967296 / 65535 / 256 % 256 ≤ r + 1 := by
  have a1 := Int.ediv_mul_le ((w - r) * 255) (Int.ne_of_gt hw0)
  have a2 := Int.lt_ediv_add_one_mul_self ((w - r) * 255) hw0
  have c0 : 0 ≤ (w - r) * 255 / w := Int.ediv_nonneg (by omega) (by omega)
  generalize (w - r) * 255 / w = c at *
  have e : (65535 - c * 257) * (65535 - (255 - w) * 257) = 66049 * (255 * w - c * w) := by grind
  rw [e]
  rw [Int.add_mul] at a2
  have t0 : 0 ≤ c * w := Int.mul_nonneg c0 (by omega)
  generalize c * w = t at *
  obtain ⟨m, hm⟩ : ∃ m, m = 255 * w - t := ⟨_, rfl⟩
  rw [← hm]
  have b0 : 255 * r ≤ m := by omega
  have b1 : m ≤ 255 * r + 254 := by omega
  have b2 : m ≤ 65025 := by omega
  have e1 : 66049 * m % 4294967296 = 66049 * m := by omega
  rw [e1]
  clear e e1 hm
  have e2 : 0 ≤ 66049 * m / 65535 ∧ 66049 * m / 65535 ≤ 65535 := by omega
  generalize hi : 66049 * m / 65535 = i at *
  have e3 : i / 256 % 256 = i / 256 := by omega
  rw [e3]
  omega

/-- The greatest of three. -/
def most (r g b : Int) : Int := max (max r g) b
/-- How much of an ink there is beside the black. -/
def inkOf (w r : Int) : Int := if w = 0 then 0 else (w - r) * 255 / w

theorem inkOf_range {w r : Int} (h0 : 0 ≤ r) (h1 : r ≤ w) : 0 ≤ inkOf w r ∧ inkOf w r ≤ 255 := by
  unfold inkOf; split
  · omega
  · refine ⟨Int.ediv_nonneg (by omega) (by omega), ?_⟩
    have hw : 0 < w := by omega
    have : (w - r) * 255 / w ≤ 255 * w / w := Int.ediv_le_ediv hw (by omega)
    rw [Int.mul_ediv_cancel _ (by omega)] at this
    exact this

theorem ink_back {r w : Int} (h0 : 0 ≤ r) (h1 : r ≤ w) (hw : w ≤ 255) : r ≤ ink8 (inkOf w r) (255 - w) ∧ ink8 (inkOf w r) (255 - w) ≤ r + 1 := by
  unfold inkOf; split
  · have : w = 0 := by omega
    have : r = 0 := by omega
    subst w r; decide
  · exact cmyk_back r w h0 h1 (by omega) hw

theorem ink_none (r g b : Int) : inkOf (most r g b) r = 0 ∨ inkOf (most r g b) g = 0 ∨ inkOf (most r g b) b = 0 := by
  have h : most r g b = r ∨ most r g b = g ∨ most r g b = b := by unfold most; omega
  have e : ∀ x, inkOf x x = 0 := fun x => by unfold inkOf; rw [Int.sub_self, Int.zero_mul, Int.zero_ediv]; split <;> rfl
  rcases h with h | h | h
  · exact .inl (by rw [h]; exact e r)
  · exact .inr (.inl (by rw [h]; exact e g))
  · exact .inr (.inr (by rw [h]; exact e b))
theorem ink8_range (c k : Int) : 0 ≤ ink8 c k ∧ ink8 c k ≤ 255 := by unfold ink8; omega
theorem luma_range {r g b : Int} (hr0 : 0 ≤ r) (hr1 : r ≤ 255) (hg0 : 0 ≤ g) (hg1 : g ≤ 255) (hb0 : 0 ≤ b) (hb1 : b ≤ 255) : 0 ≤ lumaOf r g b ∧ lumaOf r g b ≤ 255 := by unfold lumaOf; omega
theorem cb_range (r g b : Int) : 0 ≤ cbOf r g b ∧ cbOf r g b ≤ 255 := cl8_range _
theorem cr_range (r g b : Int) : 0 ≤ crOf r g b ∧ crOf r g b ≤ 255 := cl8_range _
theorem red_range (y cr : Int) : 0 ≤ redOf y cr ∧ redOf y cr ≤ 255 := cl8_range _
theorem green_range (y cb cr : Int) : 0 ≤ greenOf y cb cr ∧ greenOf y cb cr ≤ 255 := cl8_range _
theorem blue_range (y cb : Int) : 0 ≤ blueOf y cb ∧ blueOf y cb ≤ 255 := cl8_range _
theorem clamp_range (x : Int) : 0 ≤ clamp x ∧ clamp x ≤ 25500000 := by unfold clamp; omega

end Go.Proofs.Ytbehpaclnpildaa.Plain
