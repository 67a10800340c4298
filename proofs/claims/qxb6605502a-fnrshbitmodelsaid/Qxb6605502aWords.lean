import Derived.Test.Qxb6605502aPlain
import Derived.Laws.BitsAllLaws
import Derived.WalkKit
namespace Go.Proofs.Qxb6605502a
open Bw

/-- A word of 64 bits, as the walk has it. -/
def Wd (x : Int) : Prop := 0 ≤ x ∧ x < 18446744073709551616
/-- Bit i of the number whose words are a0 to a3. -/
def bit (a0 a1 a2 a3 i : Int) : Bool := zb a0.toNat a1.toNat a2.toNat a3.toNat i.toNat

theorem Wd.nat {x : Int} (h : Wd x) : x.toNat < 2 ^ 64 := by obtain ⟨_, _⟩ := h; omega
theorem Wd.of_nat {x : Nat} (h : x < 2 ^ 64) : Wd (x : Int) := ⟨by omega, by omega⟩
theorem wd_zero : Wd 0 := ⟨by omega, by omega⟩

def shlS (hi lo n : Int) : Int := ((shl1 hi.toNat lo.toNat (n % 64).toNat : Nat) : Int)
def shrS (lo hi n : Int) : Int := ((shr1 lo.toNat hi.toNat (n % 64).toNat : Nat) : Int)

theorem bit_read (a : Int) (m : Nat) (h : Wd a) : (bits .and .u64 (a / 2 ^ m) 1 == 1) = a.toNat.testBit m := by
  obtain ⟨h0, h1⟩ := h
  obtain ⟨a, rfl⟩ := Int.eq_ofNat_of_zero_le h0
  have e : ((a : Int) / 2 ^ m) = ((a / 2 ^ m : Nat) : Int) := by simp
  have hl : a / 2 ^ m < 18446744073709551616 := Nat.lt_of_le_of_lt (Nat.div_le_self _ _) (by omega)
  rw [e, show (1 : Int) = ((1 : Nat) : Int) from rfl, u64_and_nat _ _ hl (by decide), Int.toNat_natCast, Nat.testBit_eq_decide_div_mod_eq, Nat.and_one_is_mod]
  rw [Bool.eq_iff_iff, beq_iff_eq, decide_eq_true_iff]
  omega

theorem wrap_mul (a : Int) (m : Nat) (h : Wd a) : IntKind.u64.wrap (a * 2 ^ m) = ((a.toNat * 2 ^ m % 2 ^ 64 : Nat) : Int) := by
  obtain ⟨h0, h1⟩ := h
  obtain ⟨a, rfl⟩ := Int.eq_ofNat_of_zero_le h0
  rw [IntKind.wrap_u64, Int.toNat_natCast]
  simp
theorem div_pow (a : Int) (m : Nat) (h : Wd a) : a / 2 ^ m = ((a.toNat / 2 ^ m : Nat) : Int) := by
  obtain ⟨h0, h1⟩ := h
  obtain ⟨a, rfl⟩ := Int.eq_ofNat_of_zero_le h0
  simp
theorem r64 (n : Int) : (64 - n % 64).toNat = 64 - (n % 64).toNat := by omega

theorem shl_word (hi lo n : Int) (h : Wd hi) (h' : Wd lo) :
    bits .or .u64 (IntKind.u64.wrap (hi * 2 ^ (n % 64).toNat)) (lo / 2 ^ (64 - n % 64).toNat) = shlS hi lo n := by
  rw [wrap_mul _ _ h, div_pow _ _ h', r64, u64_or_nat]
  · rfl
  · exact Nat.mod_lt _ (by decide)
  · exact Nat.lt_of_le_of_lt (Nat.div_le_self _ _) h'.nat
theorem shl_word_lo (hi n : Int) (h : Wd hi) : bits .or .u64 (IntKind.u64.wrap (hi * 2 ^ (n % 64).toNat)) 0 = shlS hi 0 n := by
  rw [← shl_word hi 0 n h wd_zero, Int.zero_ediv]
theorem shl_word_last (hi n : Int) (h : Wd hi) : IntKind.u64.wrap (hi * 2 ^ (n % 64).toNat) = shlS hi 0 n := by
  rw [wrap_mul _ _ h]
  unfold shlS shl1
  rw [Int.toNat_zero, Nat.zero_div, Nat.or_zero]
theorem shl_word_none (n : Int) : bits .or .u64 0 0 = shlS 0 0 n := by
  rw [← shl_word_lo 0 n wd_zero, Int.zero_mul]; rfl
theorem shl_word_zero (n : Int) : 0 = shlS 0 0 n := by
  rw [← shl_word_last 0 n wd_zero, Int.zero_mul]; rfl

theorem shr_word (lo hi n : Int) (h : Wd lo) (h' : Wd hi) :
    bits .or .u64 (lo / 2 ^ (n % 64).toNat) (IntKind.u64.wrap (hi * 2 ^ (64 - n % 64).toNat)) = shrS lo hi n := by
  rw [wrap_mul _ _ h', div_pow _ _ h, r64, u64_or_nat]
  · rfl
  · exact Nat.lt_of_le_of_lt (Nat.div_le_self _ _) h.nat
  · exact Nat.mod_lt _ (by decide)
theorem shr_word_last (lo n : Int) (h : Wd lo) : lo / 2 ^ (n % 64).toNat = shrS lo 0 n := by
  rw [div_pow _ _ h]
  unfold shrS shr1
  rw [Int.toNat_zero, Nat.zero_mul, Nat.zero_mod, Nat.or_zero]
theorem shr_word_hi (lo n : Int) (h : Wd lo) : bits .or .u64 (lo / 2 ^ (n % 64).toNat) 0 = shrS lo 0 n := by
  rw [← shr_word lo 0 n h wd_zero, Int.zero_mul]; rfl
theorem shr_word_none (n : Int) : bits .or .u64 0 0 = shrS 0 0 n := by
  rw [← shr_word_hi 0 n wd_zero, Int.zero_ediv]
theorem shr_word_zero (n : Int) : 0 = shrS 0 0 n := by
  rw [← shr_word_last 0 n wd_zero, Int.zero_ediv]

theorem not_word (x : Int) (h : Wd x) : bits .xor .u64 IntKind.u64.max x = (((2 ^ 64 - 1) ^^^ x.toNat : Nat) : Int) := by
  have e : IntKind.u64.max = 18446744073709551615 := by decide
  obtain ⟨h0, h1⟩ := h
  rw [e, u64_xor _ _ (by decide) (by decide) h0 h1]
  rfl

theorem top_bit (x0 x1 x2 x3 : Int) (h : Wd x3) : (x3 / 9223372036854775808 == 1) = bit x0 x1 x2 x3 255 := by
  unfold bit
  rw [zb_at3 _ _ _ _ _ (by decide) (by decide), Nat.testBit_eq_decide_div_mod_eq, Bool.eq_iff_iff, beq_iff_eq, decide_eq_true_iff]
  obtain ⟨_, _⟩ := h
  have e : (2 : Nat) ^ (Int.toNat 255 - 192) = 9223372036854775808 := by decide
  rw [e]
  omega

/-- What Lsh answers. -/
structure IsShl (x0 x1 x2 x3 n r0 r1 r2 r3 : Int) : Prop where
  w0 : Wd r0
  w1 : Wd r1
  w2 : Wd r2
  w3 : Wd r3
  at_bit : ∀ i : Int, 0 ≤ i → i < 256 → bit r0 r1 r2 r3 i = (decide (n ≤ i) && bit x0 x1 x2 x3 (i - n))
/-- What Rsh answers. -/
structure IsShr (x0 x1 x2 x3 n r0 r1 r2 r3 : Int) : Prop where
  w0 : Wd r0
  w1 : Wd r1
  w2 : Wd r2
  w3 : Wd r3
  at_bit : ∀ i : Int, 0 ≤ i → i < 256 → bit r0 r1 r2 r3 i = (decide (i + n < 256) && bit x0 x1 x2 x3 (i + n))
/-- What Not answers. -/
structure IsNot (x0 x1 x2 x3 r0 r1 r2 r3 : Int) : Prop where
  w0 : Wd r0
  w1 : Wd r1
  w2 : Wd r2
  w3 : Wd r3
  at_bit : ∀ i : Int, bit r0 r1 r2 r3 i = !bit x0 x1 x2 x3 i
/-- What SRsh answers. -/
structure IsSar (x0 x1 x2 x3 n r0 r1 r2 r3 : Int) : Prop where
  w0 : Wd r0
  w1 : Wd r1
  w2 : Wd r2
  w3 : Wd r3
  at_bit : ∀ i : Int, 0 ≤ i → i < 256 → bit r0 r1 r2 r3 i = if i + n < 256 then bit x0 x1 x2 x3 (i + n) else bit x0 x1 x2 x3 255

theorem shl_mk (x0 x1 x2 x3 y0 y1 y2 y3 n t0 t1 t2 t3 : Int) (q : Nat) (hn : 0 ≤ n) (hq : n / 64 = q)
    (hy0 : Wd y0) (hy1 : Wd y1) (hy2 : Wd y2) (_hy3 : Wd y3)
    (hb : ∀ i : Nat, i < 256 → zb y0.toNat y1.toNat y2.toNat y3.toNat i = (decide (64 * q ≤ i) && zb x0.toNat x1.toNat x2.toNat x3.toNat (i - 64 * q)))
    (e0 : t0 = shlS y0 0 n) (e1 : t1 = shlS y1 y0 n) (e2 : t2 = shlS y2 y1 n) (e3 : t3 = shlS y3 y2 n) :
    IsShl x0 x1 x2 x3 n t0 t1 t2 t3 := by
  subst e0 e1 e2 e3
  refine ⟨Wd.of_nat (shl1_lt _ _ _ (by decide)), Wd.of_nat (shl1_lt _ _ _ hy0.nat), Wd.of_nat (shl1_lt _ _ _ hy1.nat), Wd.of_nat (shl1_lt _ _ _ hy2.nat), ?_⟩
  intro i h0 h1
  obtain ⟨i, rfl⟩ := Int.eq_ofNat_of_zero_le h0
  obtain ⟨n, rfl⟩ := Int.eq_ofNat_of_zero_le hn
  have hi : i < 256 := by omega
  have hr : ((n : Int) % 64).toNat = n % 64 := by omega
  have hq' : n / 64 = q := by omega
  have hz := zb_shl y0.toNat y1.toNat y2.toNat y3.toNat (n % 64) i (by omega) hi hy0.nat hy1.nat hy2.nat
  unfold bit shlS
  simp only [Int.toNat_natCast, hr, Int.toNat_zero]
  rw [hz]
  by_cases h : n ≤ i
  · have h2 : n % 64 ≤ i := by omega
    have h3 : 64 * q ≤ i - n % 64 := by omega
    have h4 : (n : Int) ≤ (i : Int) := by omega
    have h5 : ((i : Int) - (n : Int)).toNat = i - n % 64 - 64 * q := by omega
    rw [hb _ (by omega), decide_eq_true h2, decide_eq_true h3, decide_eq_true h4, h5]
    rfl
  · have h4 : ¬ (n : Int) ≤ (i : Int) := by omega
    rw [decide_eq_false h4, Bool.false_and]
    by_cases h2 : n % 64 ≤ i
    · have h3 : ¬ 64 * q ≤ i - n % 64 := by omega
      rw [hb _ (by omega), decide_eq_false h3, Bool.false_and, Bool.and_false]
    · rw [decide_eq_false h2, Bool.false_and]

theorem shr_mk (x0 x1 x2 x3 y0 y1 y2 y3 n t0 t1 t2 t3 : Int) (q : Nat) (hn : 0 ≤ n) (hq : n / 64 = q)
    (hy0 : Wd y0) (hy1 : Wd y1) (hy2 : Wd y2) (hy3 : Wd y3)
    (hb : ∀ i : Nat, i < 256 → zb y0.toNat y1.toNat y2.toNat y3.toNat i = (decide (i + 64 * q < 256) && zb x0.toNat x1.toNat x2.toNat x3.toNat (i + 64 * q)))
    (e0 : t0 = shrS y0 y1 n) (e1 : t1 = shrS y1 y2 n) (e2 : t2 = shrS y2 y3 n) (e3 : t3 = shrS y3 0 n) :
    IsShr x0 x1 x2 x3 n t0 t1 t2 t3 := by
  subst e0 e1 e2 e3
  refine ⟨Wd.of_nat (shr1_lt _ _ _ hy0.nat), Wd.of_nat (shr1_lt _ _ _ hy1.nat), Wd.of_nat (shr1_lt _ _ _ hy2.nat), Wd.of_nat (shr1_lt _ _ _ hy3.nat), ?_⟩
  intro i h0 h1
  obtain ⟨i, rfl⟩ := Int.eq_ofNat_of_zero_le h0
  obtain ⟨n, rfl⟩ := Int.eq_ofNat_of_zero_le hn
  have hi : i < 256 := by omega
  have hr : ((n : Int) % 64).toNat = n % 64 := by omega
  have hq' : n / 64 = q := by omega
  have hz := zb_shr y0.toNat y1.toNat y2.toNat y3.toNat (n % 64) i (by omega) hi hy0.nat hy1.nat hy2.nat hy3.nat
  unfold bit shrS
  simp only [Int.toNat_natCast, hr, Int.toNat_zero]
  rw [hz]
  by_cases h : i + n < 256
  · have h2 : i + n % 64 < 256 := by omega
    have h3 : i + n % 64 + 64 * q < 256 := by omega
    have h4 : (i : Int) + (n : Int) < 256 := by omega
    have h5 : ((i : Int) + (n : Int)).toNat = i + n % 64 + 64 * q := by omega
    rw [hb _ h2, decide_eq_true h2, decide_eq_true h3, decide_eq_true h4, h5]
    rfl
  · have h4 : ¬ (i : Int) + (n : Int) < 256 := by omega
    rw [decide_eq_false h4, Bool.false_and]
    by_cases h2 : i + n % 64 < 256
    · have h3 : ¬ i + n % 64 + 64 * q < 256 := by omega
      rw [hb _ h2, decide_eq_false h3, Bool.false_and, Bool.and_false]
    · rw [decide_eq_false h2, Bool.false_and]

theorem bit_zero (i : Int) : bit 0 0 0 0 i = false := zb_zero _

theorem shl_far (x0 x1 x2 x3 n : Int) (hn : 256 ≤ n) : IsShl x0 x1 x2 x3 n 0 0 0 0 := by
  refine ⟨wd_zero, wd_zero, wd_zero, wd_zero, ?_⟩
  intro i h0 h1
  rw [bit_zero, decide_eq_false (by omega : ¬ n ≤ i), Bool.false_and]
theorem shr_far (x0 x1 x2 x3 n : Int) (hn : 256 ≤ n) : IsShr x0 x1 x2 x3 n 0 0 0 0 := by
  refine ⟨wd_zero, wd_zero, wd_zero, wd_zero, ?_⟩
  intro i h0 h1
  rw [bit_zero, decide_eq_false (by omega : ¬ i + n < 256), Bool.false_and]

theorem not_mk (x0 x1 x2 x3 : Int) (h0 : Wd x0) (h1 : Wd x1) (h2 : Wd x2) (h3 : Wd x3) :
    IsNot x0 x1 x2 x3 (bits .xor .u64 IntKind.u64.max x0) (bits .xor .u64 IntKind.u64.max x1) (bits .xor .u64 IntKind.u64.max x2) (bits .xor .u64 IntKind.u64.max x3) := by
  rw [not_word _ h0, not_word _ h1, not_word _ h2, not_word _ h3]
  refine ⟨Wd.of_nat (not_lt _ h0.nat), Wd.of_nat (not_lt _ h1.nat), Wd.of_nat (not_lt _ h2.nat), Wd.of_nat (not_lt _ h3.nat), ?_⟩
  intro i
  unfold bit
  simp only [Int.toNat_natCast]
  exact zb_not _ _ _ _ _

theorem sar_pos {x0 x1 x2 x3 n r0 r1 r2 r3 : Int} (hb : bit x0 x1 x2 x3 255 = false) (h : IsShr x0 x1 x2 x3 n r0 r1 r2 r3) : IsSar x0 x1 x2 x3 n r0 r1 r2 r3 := by
  refine ⟨h.w0, h.w1, h.w2, h.w3, ?_⟩
  intro i h0 h1
  rw [h.at_bit i h0 h1]
  by_cases c : i + n < 256
  · rw [if_pos c, decide_eq_true c, Bool.true_and]
  · rw [if_neg c, decide_eq_false c, Bool.false_and, hb]
theorem sar_neg {x0 x1 x2 x3 n y0 y1 y2 y3 z0 z1 z2 z3 r0 r1 r2 r3 : Int} (hb : bit x0 x1 x2 x3 255 = true) (h : IsNot x0 x1 x2 x3 y0 y1 y2 y3) (g : IsShr y0 y1 y2 y3 n z0 z1 z2 z3) (f : IsNot z0 z1 z2 z3 r0 r1 r2 r3) : IsSar x0 x1 x2 x3 n r0 r1 r2 r3 := by
  refine ⟨f.w0, f.w1, f.w2, f.w3, ?_⟩
  intro i h0 h1
  rw [f.at_bit i, g.at_bit i h0 h1, h.at_bit]
  by_cases c : i + n < 256
  · rw [if_pos c, decide_eq_true c, Bool.true_and, Bool.not_not]
  · rw [if_neg c, decide_eq_false c, Bool.false_and, hb]; rfl

/-! ### The laws, a bit at a time: no Go in sight -/
theorem up_down {x0 x1 x2 x3 n y0 y1 y2 y3 r0 r1 r2 r3 : Int} (hn : 0 ≤ n) (h : IsShl x0 x1 x2 x3 n y0 y1 y2 y3) (g : IsShr y0 y1 y2 y3 n r0 r1 r2 r3) (i : Int) (h0 : 0 ≤ i) (h1 : i < 256) :
    bit r0 r1 r2 r3 i = (decide (n < 256 - i) && bit x0 x1 x2 x3 i) := by
  rw [g.at_bit i h0 h1]
  by_cases c : n < 256 - i
  · have e : i + n - n = i := by omega
    rw [h.at_bit (i + n) (by omega) (by omega), decide_eq_true c, decide_eq_true (by omega : i + n < 256), decide_eq_true (by omega : n ≤ i + n), e]
    rfl
  · rw [decide_eq_false c, decide_eq_false (by omega : ¬ i + n < 256), Bool.false_and, Bool.false_and]
theorem down_up {x0 x1 x2 x3 n y0 y1 y2 y3 r0 r1 r2 r3 : Int} (hn : 0 ≤ n) (h : IsShr x0 x1 x2 x3 n y0 y1 y2 y3) (g : IsShl y0 y1 y2 y3 n r0 r1 r2 r3) (i : Int) (h0 : 0 ≤ i) (h1 : i < 256) :
    bit r0 r1 r2 r3 i = (decide (n ≤ i) && bit x0 x1 x2 x3 i) := by
  rw [g.at_bit i h0 h1]
  by_cases c : n ≤ i
  · have e : i - n + n = i := by omega
    rw [h.at_bit (i - n) (by omega) (by omega), decide_eq_true c, decide_eq_true (by omega : i - n + n < 256), e]
    rfl
  · rw [decide_eq_false c, Bool.false_and, Bool.false_and]
theorem sar_fill {x0 x1 x2 x3 n r0 r1 r2 r3 s0 s1 s2 s3 : Int} (h : IsSar x0 x1 x2 x3 n r0 r1 r2 r3) (g : IsShr x0 x1 x2 x3 n s0 s1 s2 s3) (i : Int) (h0 : 0 ≤ i) (h1 : i < 256) :
    bit r0 r1 r2 r3 i = (bit s0 s1 s2 s3 i || (bit x0 x1 x2 x3 255 && decide (256 - i ≤ n))) := by
  rw [h.at_bit i h0 h1, g.at_bit i h0 h1]
  by_cases c : i + n < 256
  · rw [if_pos c, decide_eq_true c, decide_eq_false (by omega : ¬ 256 - i ≤ n), Bool.true_and, Bool.and_false, Bool.or_false]
  · rw [if_neg c, decide_eq_false c, decide_eq_true (by omega : 256 - i ≤ n), Bool.false_and, Bool.false_or, Bool.and_true]

end Go.Proofs.Qxb6605502a
