namespace Go.Proofs.Qxb6605502a.Bw

/-- A word of 64 bits, moved left by r, with what the lower word moves out of its top. -/
def shl1 (hi lo r : Nat) : Nat := (hi * 2 ^ r) % 2 ^ 64 ||| lo / 2 ^ (64 - r)
/-- A word of 64 bits, moved right by r, with what the upper word moves out of its bottom. -/
def shr1 (lo hi r : Nat) : Nat := lo / 2 ^ r ||| (hi * 2 ^ (64 - r)) % 2 ^ 64

theorem tb {x i j : Nat} (h : i = j) : x.testBit i = x.testBit j := by rw [h]
theorem dtb {p q : Prop} [Decidable p] [Decidable q] {b : Bool} (h : p ↔ q) : (decide p && b) = (decide q && b) := by rw [decide_eq_decide.2 h]

theorem bit_shl1 (hi lo r j : Nat) (hr : r < 64) (hj : j < 64) (hlo : lo < 2 ^ 64) :
    (shl1 hi lo r).testBit j = if r ≤ j then hi.testBit (j - r) else lo.testBit (64 + j - r) := by
  unfold shl1
  rw [Nat.testBit_or, Nat.testBit_mod_two_pow, Nat.mul_comm, Nat.testBit_two_pow_mul, Nat.testBit_div_two_pow]
  by_cases h : r ≤ j
  · have : lo.testBit (j + (64 - r)) = false := Nat.testBit_lt_two_pow (Nat.lt_of_lt_of_le hlo (Nat.pow_le_pow_right (by decide) (by omega)))
    simp [h, hj, this]
  · rw [if_neg h, show j + (64 - r) = 64 + j - r by omega]
    simp [h]

theorem bit_shr1 (lo hi r j : Nat) (hr : r < 64) (hj : j < 64) (hlo : lo < 2 ^ 64) :
    (shr1 lo hi r).testBit j = if j + r < 64 then lo.testBit (j + r) else hi.testBit (j + r - 64) := by
  unfold shr1
  rw [Nat.testBit_or, Nat.testBit_mod_two_pow, Nat.mul_comm, Nat.testBit_two_pow_mul, Nat.testBit_div_two_pow]
  by_cases h : j + r < 64
  · have : ¬ (64 - r ≤ j) := by omega
    rw [if_pos h]
    simp [this]
  · have h2 : 64 - r ≤ j := by omega
    have : lo.testBit (j + r) = false := Nat.testBit_lt_two_pow (Nat.lt_of_lt_of_le hlo (Nat.pow_le_pow_right (by decide) (by omega)))
    rw [if_neg h, show j - (64 - r) = j + r - 64 by omega]
    simp [this, h2, hj]

/-- Which of four words bit i lies in. -/
def limb (a0 a1 a2 a3 i : Nat) : Nat := if i / 64 = 0 then a0 else if i / 64 = 1 then a1 else if i / 64 = 2 then a2 else a3
/-- Bit i of the number whose words are a0 to a3. -/
def zb (a0 a1 a2 a3 i : Nat) : Bool := (limb a0 a1 a2 a3 i).testBit (i % 64)

theorem zb_at0 (a0 a1 a2 a3 i : Nat) (h : i < 64) : zb a0 a1 a2 a3 i = a0.testBit i := by
  unfold zb limb
  rw [if_pos (by omega), Nat.mod_eq_of_lt h]
theorem zb_at1 (a0 a1 a2 a3 i : Nat) (h1 : 64 ≤ i) (h : i < 128) : zb a0 a1 a2 a3 i = a1.testBit (i - 64) := by
  unfold zb limb
  rw [if_neg (by omega), if_pos (by omega), show i % 64 = i - 64 by omega]
theorem zb_at2 (a0 a1 a2 a3 i : Nat) (h1 : 128 ≤ i) (h : i < 192) : zb a0 a1 a2 a3 i = a2.testBit (i - 128) := by
  unfold zb limb
  rw [if_neg (by omega), if_neg (by omega), if_pos (by omega), show i % 64 = i - 128 by omega]
theorem zb_at3 (a0 a1 a2 a3 i : Nat) (h1 : 192 ≤ i) (h : i < 256) : zb a0 a1 a2 a3 i = a3.testBit (i - 192) := by
  unfold zb limb
  rw [if_neg (by omega), if_neg (by omega), if_neg (by omega), show i % 64 = i - 192 by omega]
theorem zb_zero (i : Nat) : zb 0 0 0 0 i = false := by
  unfold zb limb; simp

/-- The bits of four words, each moved left by r < 64. -/
theorem zb_shl (a0 a1 a2 a3 r i : Nat) (hr : r < 64) (hi : i < 256) (h0 : a0 < 2 ^ 64) (h1 : a1 < 2 ^ 64) (h2 : a2 < 2 ^ 64) :
    zb (shl1 a0 0 r) (shl1 a1 a0 r) (shl1 a2 a1 r) (shl1 a3 a2 r) i = (decide (r ≤ i) && zb a0 a1 a2 a3 (i - r)) := by
  have c : i < 64 ∨ (64 ≤ i ∧ i < 128) ∨ (128 ≤ i ∧ i < 192) ∨ (192 ≤ i ∧ i < 256) := by omega
  rcases c with c | ⟨c, d⟩ | ⟨c, d⟩ | ⟨c, d⟩
  · rw [zb_at0 _ _ _ _ _ c, bit_shl1 _ _ _ _ hr c (by decide)]
    by_cases h : r ≤ i
    · rw [if_pos h, zb_at0 _ _ _ _ _ (by omega)]; simp [h]
    · rw [if_neg h]; simp [h]
  · rw [zb_at1 _ _ _ _ _ c d, bit_shl1 _ _ _ _ hr (by omega) h0, decide_eq_true (by omega : r ≤ i), Bool.true_and]
    by_cases h : r ≤ i - 64
    · rw [if_pos h, zb_at1 _ _ _ _ _ (by omega) (by omega)]; exact tb (by omega)
    · rw [if_neg h, zb_at0 _ _ _ _ _ (by omega)]; exact tb (by omega)
  · rw [zb_at2 _ _ _ _ _ c d, bit_shl1 _ _ _ _ hr (by omega) h1, decide_eq_true (by omega : r ≤ i), Bool.true_and]
    by_cases h : r ≤ i - 128
    · rw [if_pos h, zb_at2 _ _ _ _ _ (by omega) (by omega)]; exact tb (by omega)
    · rw [if_neg h, zb_at1 _ _ _ _ _ (by omega) (by omega)]; exact tb (by omega)
  · rw [zb_at3 _ _ _ _ _ c d, bit_shl1 _ _ _ _ hr (by omega) h2, decide_eq_true (by omega : r ≤ i), Bool.true_and]
    by_cases h : r ≤ i - 192
    · rw [if_pos h, zb_at3 _ _ _ _ _ (by omega) (by omega)]; exact tb (by omega)
    · rw [if_neg h, zb_at2 _ _ _ _ _ (by omega) (by omega)]; exact tb (by omega)

/-- The bits of four words, each moved right by r < 64. -/
theorem zb_shr (a0 a1 a2 a3 r i : Nat) (hr : r < 64) (hi : i < 256) (h0 : a0 < 2 ^ 64) (h1 : a1 < 2 ^ 64) (h2 : a2 < 2 ^ 64) (h3 : a3 < 2 ^ 64) :
    zb (shr1 a0 a1 r) (shr1 a1 a2 r) (shr1 a2 a3 r) (shr1 a3 0 r) i = (decide (i + r < 256) && zb a0 a1 a2 a3 (i + r)) := by
  have c : i < 64 ∨ (64 ≤ i ∧ i < 128) ∨ (128 ≤ i ∧ i < 192) ∨ (192 ≤ i ∧ i < 256) := by omega
  rcases c with c | ⟨c, d⟩ | ⟨c, d⟩ | ⟨c, d⟩
  · rw [zb_at0 _ _ _ _ _ c, bit_shr1 _ _ _ _ hr c h0, decide_eq_true (by omega : i + r < 256), Bool.true_and]
    by_cases h : i + r < 64
    · rw [if_pos h, zb_at0 _ _ _ _ _ (by omega)]
    · rw [if_neg h, zb_at1 _ _ _ _ _ (by omega) (by omega)]
  · rw [zb_at1 _ _ _ _ _ c d, bit_shr1 _ _ _ _ hr (by omega) h1, decide_eq_true (by omega : i + r < 256), Bool.true_and]
    by_cases h : i - 64 + r < 64
    · rw [if_pos h, zb_at1 _ _ _ _ _ (by omega) (by omega)]; exact tb (by omega)
    · rw [if_neg h, zb_at2 _ _ _ _ _ (by omega) (by omega)]; exact tb (by omega)
  · rw [zb_at2 _ _ _ _ _ c d, bit_shr1 _ _ _ _ hr (by omega) h2, decide_eq_true (by omega : i + r < 256), Bool.true_and]
    by_cases h : i - 128 + r < 64
    · rw [if_pos h, zb_at2 _ _ _ _ _ (by omega) (by omega)]; exact tb (by omega)
    · rw [if_neg h, zb_at3 _ _ _ _ _ (by omega) (by omega)]; exact tb (by omega)
  · rw [zb_at3 _ _ _ _ _ c d, bit_shr1 _ _ _ _ hr (by omega) h3]
    by_cases h : i - 192 + r < 64
    · rw [if_pos h, decide_eq_true (by omega : i + r < 256), Bool.true_and, zb_at3 _ _ _ _ _ (by omega) (by omega)]; exact tb (by omega)
    · rw [if_neg h, decide_eq_false (by omega : ¬ i + r < 256), Bool.false_and, Nat.zero_testBit]

/-- Four words moved up by one, two, three whole words. -/
theorem zb_up1 (a0 a1 a2 a3 i : Nat) (hi : i < 256) : zb 0 a0 a1 a2 i = (decide (64 ≤ i) && zb a0 a1 a2 a3 (i - 64)) := by
  have c : i < 64 ∨ (64 ≤ i ∧ i < 128) ∨ (128 ≤ i ∧ i < 192) ∨ (192 ≤ i ∧ i < 256) := by omega
  rcases c with c | ⟨c, d⟩ | ⟨c, d⟩ | ⟨c, d⟩
  · rw [zb_at0 _ _ _ _ _ c, decide_eq_false (by omega : ¬ 64 ≤ i)]; simp
  · rw [zb_at1 _ _ _ _ _ c d, decide_eq_true (by omega : 64 ≤ i), Bool.true_and, zb_at0 _ _ _ _ _ (by omega)]
  · rw [zb_at2 _ _ _ _ _ c d, decide_eq_true (by omega : 64 ≤ i), Bool.true_and, zb_at1 _ _ _ _ _ (by omega) (by omega)]; exact tb (by omega)
  · rw [zb_at3 _ _ _ _ _ c d, decide_eq_true (by omega : 64 ≤ i), Bool.true_and, zb_at2 _ _ _ _ _ (by omega) (by omega)]; exact tb (by omega)
theorem zb_up2 (a0 a1 a2 a3 i : Nat) (hi : i < 256) : zb 0 0 a0 a1 i = (decide (128 ≤ i) && zb a0 a1 a2 a3 (i - 128)) := by
  rw [zb_up1 0 a0 a1 a2 i hi]
  by_cases h : 128 ≤ i
  · have e : i - 64 - 64 = i - 128 := by omega
    have h1 : 64 ≤ i := by omega
    have h2 : 64 ≤ i - 64 := by omega
    have hl : i - 64 < 256 := by omega
    have z := zb_up1 a0 a1 a2 a3 (i - 64) hl
    rw [e] at z
    simp only [h, h1, h2, z, decide_true, Bool.true_and]
  · simp only [h, decide_false, Bool.false_and]
    by_cases h1 : 64 ≤ i
    · have h2 : ¬ 64 ≤ i - 64 := by omega
      have hl : i - 64 < 256 := by omega
      have z := zb_up1 a0 a1 a2 a3 (i - 64) hl
      simp only [h1, z, h2, decide_true, decide_false, Bool.false_and, Bool.true_and]
    · simp only [h1, decide_false, Bool.false_and]
theorem zb_up3 (a0 a1 a2 a3 i : Nat) (hi : i < 256) : zb 0 0 0 a0 i = (decide (192 ≤ i) && zb a0 a1 a2 a3 (i - 192)) := by
  rw [zb_up1 0 0 a0 a1 i hi]
  by_cases h : 192 ≤ i
  · have e : i - 64 - 128 = i - 192 := by omega
    have h1 : 64 ≤ i := by omega
    have h2 : 128 ≤ i - 64 := by omega
    have hl : i - 64 < 256 := by omega
    have z := zb_up2 a0 a1 a2 a3 (i - 64) hl
    rw [e] at z
    simp only [h, h1, h2, z, decide_true, Bool.true_and]
  · simp only [h, decide_false, Bool.false_and]
    by_cases h1 : 64 ≤ i
    · have h2 : ¬ 128 ≤ i - 64 := by omega
      have hl : i - 64 < 256 := by omega
      have z := zb_up2 a0 a1 a2 a3 (i - 64) hl
      simp only [h1, z, h2, decide_true, decide_false, Bool.false_and, Bool.true_and]
    · simp only [h1, decide_false, Bool.false_and]

/-- Four words moved down by one, two, three whole words. -/
theorem zb_dn1 (a0 a1 a2 a3 i : Nat) (hi : i < 256) : zb a1 a2 a3 0 i = (decide (i + 64 < 256) && zb a0 a1 a2 a3 (i + 64)) := by
  have c : i < 64 ∨ (64 ≤ i ∧ i < 128) ∨ (128 ≤ i ∧ i < 192) ∨ (192 ≤ i ∧ i < 256) := by omega
  rcases c with c | ⟨c, d⟩ | ⟨c, d⟩ | ⟨c, d⟩
  · rw [zb_at0 _ _ _ _ _ c, decide_eq_true (by omega : i + 64 < 256), Bool.true_and, zb_at1 _ _ _ _ _ (by omega) (by omega), Nat.add_sub_cancel]
  · rw [zb_at1 _ _ _ _ _ c d, decide_eq_true (by omega : i + 64 < 256), Bool.true_and, zb_at2 _ _ _ _ _ (by omega) (by omega)]; exact tb (by omega)
  · rw [zb_at2 _ _ _ _ _ c d, decide_eq_true (by omega : i + 64 < 256), Bool.true_and, zb_at3 _ _ _ _ _ (by omega) (by omega)]; exact tb (by omega)
  · rw [zb_at3 _ _ _ _ _ c d, decide_eq_false (by omega : ¬ i + 64 < 256)]; simp
theorem zb_dn2 (a0 a1 a2 a3 i : Nat) (hi : i < 256) : zb a2 a3 0 0 i = (decide (i + 128 < 256) && zb a0 a1 a2 a3 (i + 128)) := by
  rw [zb_dn1 a1 a2 a3 0 i hi]
  by_cases h : i + 64 < 256
  · have e : i + 64 + 64 = i + 128 := by omega
    have z := zb_dn1 a0 a1 a2 a3 (i + 64) h
    rw [e] at z
    simp only [h, z, decide_true, Bool.true_and]
  · have h2 : ¬ i + 128 < 256 := by omega
    simp only [h, h2, decide_false, Bool.false_and]
theorem zb_dn3 (a0 a1 a2 a3 i : Nat) (hi : i < 256) : zb a3 0 0 0 i = (decide (i + 192 < 256) && zb a0 a1 a2 a3 (i + 192)) := by
  rw [zb_dn1 a2 a3 0 0 i hi]
  by_cases h : i + 64 < 256
  · have e : i + 64 + 128 = i + 192 := by omega
    have z := zb_dn2 a0 a1 a2 a3 (i + 64) h
    rw [e] at z
    simp only [h, z, decide_true, Bool.true_and]
  · have h2 : ¬ i + 192 < 256 := by omega
    simp only [h, h2, decide_false, Bool.false_and]

/-- The complement of a word. -/
theorem bit_not (a j : Nat) (hj : j < 64) : ((2 ^ 64 - 1) ^^^ a).testBit j = !a.testBit j := by
  rw [Nat.testBit_xor, Nat.testBit_two_pow_sub_one, decide_eq_true hj, Bool.true_xor]
theorem zb_not (a0 a1 a2 a3 i : Nat) :
    zb ((2 ^ 64 - 1) ^^^ a0) ((2 ^ 64 - 1) ^^^ a1) ((2 ^ 64 - 1) ^^^ a2) ((2 ^ 64 - 1) ^^^ a3) i = !zb a0 a1 a2 a3 i := by
  unfold zb limb
  have hj : i % 64 < 64 := by omega
  split
  · exact bit_not _ _ hj
  · split
    · exact bit_not _ _ hj
    · split
      · exact bit_not _ _ hj
      · exact bit_not _ _ hj

theorem shl1_lt (hi lo r : Nat) (h : lo < 2 ^ 64) : shl1 hi lo r < 2 ^ 64 :=
  Nat.or_lt_two_pow (Nat.mod_lt _ (by decide)) (Nat.lt_of_le_of_lt (Nat.div_le_self _ _) h)
theorem shr1_lt (lo hi r : Nat) (h : lo < 2 ^ 64) : shr1 lo hi r < 2 ^ 64 :=
  Nat.or_lt_two_pow (Nat.lt_of_le_of_lt (Nat.div_le_self _ _) h) (Nat.mod_lt _ (by decide))
theorem not_lt (a : Nat) (h : a < 2 ^ 64) : (2 ^ 64 - 1) ^^^ a < 2 ^ 64 := Nat.xor_lt_two_pow (by decide) h

end Go.Proofs.Qxb6605502a.Bw
