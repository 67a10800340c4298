import Derived.Test.Qxb6605502aRows
import Derived.Test.Qxb6605502aWords
import Derived.WalkKit
import Derived.WalkSpells
import Derived.RowKit3
namespace Go.Proofs.Qxb6605502a
open Go.RowKit Bw

set_option linter.unusedVariables false      -- the walk uses bounds by omega alone

theorem hide {p : Prop} (h : p) : Hid p := h
theorem ret_bool {a b : Bool} (h : a = b) : Ending.returned (.bool a) = .returned (.bool b) := by rw [h]

/-! ### zzBit: bit i, by the word that it lies in -/
theorem zz_0 (a0 a1 a2 a3 i : Int) (h : Wd a0) (hi : 0 ≤ i) (hj : i < 64) (w : World) :
    Calls Try.prog 12 #[.int .u64 a0, .int .u64 a1, .int .u64 a2, .int .u64 a3, .int .u64 i] w fun e w' => e = .returned (.bool (bit a0 a1 a2 a3 i)) ∧ w' = w := by
  have hb : (bits .and .u64 (a0 / 2 ^ (i % 64).toNat) 1 == 1) = bit a0 a1 a2 a3 i := by
    rw [bit_read _ _ h]
    unfold bit
    rw [zb_at0 _ _ _ _ _ (by omega)]
    exact tb (by omega)
  have H : Hid ((bits .and .u64 (a0 / 2 ^ (i % 64).toNat) 1 == 1) = bit a0 a1 a2 a3 i) := hide hb
  clear hb
  obtain ⟨h0, h1⟩ := h
  have e0 : (i / 64 == 0) = true := beq_iff_eq.2 (by omega)
  go_enter Try.func12, Try.ntmps12
  go_wp2
  go_ret
  exact ⟨ret_bool H.out, rfl⟩
theorem zz_1 (a0 a1 a2 a3 i : Int) (h : Wd a1) (hi : 64 ≤ i) (hj : i < 128) (w : World) :
    Calls Try.prog 12 #[.int .u64 a0, .int .u64 a1, .int .u64 a2, .int .u64 a3, .int .u64 i] w fun e w' => e = .returned (.bool (bit a0 a1 a2 a3 i)) ∧ w' = w := by
  have hb : (bits .and .u64 (a1 / 2 ^ (i % 64).toNat) 1 == 1) = bit a0 a1 a2 a3 i := by
    rw [bit_read _ _ h]
    unfold bit
    rw [zb_at1 _ _ _ _ _ (by omega) (by omega)]
    exact tb (by omega)
  have H : Hid ((bits .and .u64 (a1 / 2 ^ (i % 64).toNat) 1 == 1) = bit a0 a1 a2 a3 i) := hide hb
  clear hb
  obtain ⟨h0, h1⟩ := h
  have e0 : (i / 64 == 0) = false := beq_eq_false_iff_ne.2 (by omega)
  have e1 : (i / 64 == 1) = true := beq_iff_eq.2 (by omega)
  go_enter Try.func12, Try.ntmps12
  go_wp2
  go_ret
  exact ⟨ret_bool H.out, rfl⟩
theorem zz_2 (a0 a1 a2 a3 i : Int) (h : Wd a2) (hi : 128 ≤ i) (hj : i < 192) (w : World) :
    Calls Try.prog 12 #[.int .u64 a0, .int .u64 a1, .int .u64 a2, .int .u64 a3, .int .u64 i] w fun e w' => e = .returned (.bool (bit a0 a1 a2 a3 i)) ∧ w' = w := by
  have hb : (bits .and .u64 (a2 / 2 ^ (i % 64).toNat) 1 == 1) = bit a0 a1 a2 a3 i := by
    rw [bit_read _ _ h]
    unfold bit
    rw [zb_at2 _ _ _ _ _ (by omega) (by omega)]
    exact tb (by omega)
  have H : Hid ((bits .and .u64 (a2 / 2 ^ (i % 64).toNat) 1 == 1) = bit a0 a1 a2 a3 i) := hide hb
  clear hb
  obtain ⟨h0, h1⟩ := h
  have e0 : (i / 64 == 0) = false := beq_eq_false_iff_ne.2 (by omega)
  have e1 : (i / 64 == 1) = false := beq_eq_false_iff_ne.2 (by omega)
  have e2 : (i / 64 == 2) = true := beq_iff_eq.2 (by omega)
  go_enter Try.func12, Try.ntmps12
  go_wp2
  go_ret
  exact ⟨ret_bool H.out, rfl⟩
theorem zz_3 (a0 a1 a2 a3 i : Int) (h : Wd a3) (hi : 192 ≤ i) (hj : i < 256) (w : World) :
    Calls Try.prog 12 #[.int .u64 a0, .int .u64 a1, .int .u64 a2, .int .u64 a3, .int .u64 i] w fun e w' => e = .returned (.bool (bit a0 a1 a2 a3 i)) ∧ w' = w := by
  have hb : (bits .and .u64 (a3 / 2 ^ (i % 64).toNat) 1 == 1) = bit a0 a1 a2 a3 i := by
    rw [bit_read _ _ h]
    unfold bit
    rw [zb_at3 _ _ _ _ _ (by omega) (by omega)]
    exact tb (by omega)
  have H : Hid ((bits .and .u64 (a3 / 2 ^ (i % 64).toNat) 1 == 1) = bit a0 a1 a2 a3 i) := hide hb
  clear hb
  obtain ⟨h0, h1⟩ := h
  have e0 : (i / 64 == 0) = false := beq_eq_false_iff_ne.2 (by omega)
  have e1 : (i / 64 == 1) = false := beq_eq_false_iff_ne.2 (by omega)
  have e2 : (i / 64 == 2) = false := beq_eq_false_iff_ne.2 (by omega)
  go_enter Try.func12, Try.ntmps12
  go_wp2
  go_ret
  exact ⟨ret_bool H.out, rfl⟩
/-- zzBit, for every place below 256. -/
theorem zz (a0 a1 a2 a3 i : Int) (h0 : Wd a0) (h1 : Wd a1) (h2 : Wd a2) (h3 : Wd a3) (hi : 0 ≤ i) (hj : i < 256) (w : World) :
    Calls Try.prog 12 #[.int .u64 a0, .int .u64 a1, .int .u64 a2, .int .u64 a3, .int .u64 i] w fun e w' => e = .returned (.bool (bit a0 a1 a2 a3 i)) ∧ w' = w := by
  have c : i < 64 ∨ (64 ≤ i ∧ i < 128) ∨ (128 ≤ i ∧ i < 192) ∨ (192 ≤ i ∧ i < 256) := by omega
  rcases c with c | ⟨c, d⟩ | ⟨c, d⟩ | ⟨c, d⟩
  · exact zz_0 a0 a1 a2 a3 i h0 hi c w
  · exact zz_1 a0 a1 a2 a3 i h1 c d w
  · exact zz_2 a0 a1 a2 a3 i h2 c d w
  · exact zz_3 a0 a1 a2 a3 i h3 c d w

/-! ### ZZMake, ZZLimbs -/
theorem mk (x0 x1 x2 x3 : Int) (w : World) :
    Calls Try.prog 9 #[.int .u64 x0, .int .u64 x1, .int .u64 x2, .int .u64 x3] w fun e w' => e = .returned (.agg #[.int .u64 x0, .int .u64 x1, .int .u64 x2, .int .u64 x3]) ∧ ∃ c1 : Array Value, w' = w.alloc (.cells c1 25) := by
  go_enter Try.func9, Try.ntmps9
  go_wp2
  simp [bodyPost, results, Try.results9, go_sem]
  exact ⟨_, rfl⟩
theorem limbs (x0 x1 x2 x3 : Int) (w : World) :
    Calls Try.prog 10 #[.agg #[.int .u64 x0, .int .u64 x1, .int .u64 x2, .int .u64 x3]] w fun e w' => e = .returned (.tuple #[.int .u64 x0, .int .u64 x1, .int .u64 x2, .int .u64 x3]) ∧ ∃ c1 : Array Value, w' = (w.alloc (.cells c1 25)).drew := by
  go_enter Try.func10, Try.ntmps10
  go_wp2
  go_region
  all_goals
    go_wp2
    simp [bodyPost, results, Try.results10, go_sem]
    exact ⟨_, rfl⟩

/-! ### lsh -/
theorem lsh_0 (x0 x1 x2 x3 n : Int) (h0 : 0 ≤ x0) (h0' : x0 < 18446744073709551616) (h1 : 0 ≤ x1) (h1' : x1 < 18446744073709551616) (h2 : 0 ≤ x2) (h2' : x2 < 18446744073709551616) (h3 : 0 ≤ x3) (h3' : x3 < 18446744073709551616) (hi : 0 ≤ n) (hj : n < 64) (w : World) :
    Calls Try.prog 11 #[.agg #[.int .u64 x0, .int .u64 x1, .int .u64 x2, .int .u64 x3], .int .u64 n] w fun e w' => ∃ r0 r1 r2 r3 : Int, e = .returned (.agg #[.int .u64 r0, .int .u64 r1, .int .u64 r2, .int .u64 r3]) ∧ IsShl x0 x1 x2 x3 n r0 r1 r2 r3 ∧ ∃ c1 c2 : Array Value, w' = (w.alloc (.cells c1 25)).alloc (.cells c2 25) := by
  go_enter Try.func11, Try.ntmps11
  go_wp2
  simp [bodyPost, results, Try.results11, go_sem]
  have H0 : Wd x0 := ⟨h0, h0'⟩
  have H1 : Wd x1 := ⟨h1, h1'⟩
  have H2 : Wd x2 := ⟨h2, h2'⟩
  have H3 : Wd x3 := ⟨h3, h3'⟩
  exact ⟨_, _, _, _, ⟨rfl, rfl, rfl, rfl⟩, shl_mk x0 x1 x2 x3 x0 x1 x2 x3 n _ _ _ _ 0 (by omega) (by omega) H0 H1 H2 H3 (fun i _ => by simp) (shl_word_last _ _ H0) (shl_word _ _ _ H1 H0) (shl_word _ _ _ H2 H1) (shl_word _ _ _ H3 H2), _, _, rfl⟩
theorem lsh_1 (x0 x1 x2 x3 n : Int) (h0 : 0 ≤ x0) (h0' : x0 < 18446744073709551616) (h1 : 0 ≤ x1) (h1' : x1 < 18446744073709551616) (h2 : 0 ≤ x2) (h2' : x2 < 18446744073709551616) (h3 : 0 ≤ x3) (h3' : x3 < 18446744073709551616) (hi : 64 ≤ n) (hj : n < 128) (w : World) :
    Calls Try.prog 11 #[.agg #[.int .u64 x0, .int .u64 x1, .int .u64 x2, .int .u64 x3], .int .u64 n] w fun e w' => ∃ r0 r1 r2 r3 : Int, e = .returned (.agg #[.int .u64 r0, .int .u64 r1, .int .u64 r2, .int .u64 r3]) ∧ IsShl x0 x1 x2 x3 n r0 r1 r2 r3 ∧ ∃ c1 c2 : Array Value, w' = (w.alloc (.cells c1 25)).alloc (.cells c2 25) := by
  go_enter Try.func11, Try.ntmps11
  go_wp2
  simp [bodyPost, results, Try.results11, go_sem]
  have H0 : Wd x0 := ⟨h0, h0'⟩
  have H1 : Wd x1 := ⟨h1, h1'⟩
  have H2 : Wd x2 := ⟨h2, h2'⟩
  exact ⟨_, _, _, _, ⟨rfl, rfl, rfl, rfl⟩, shl_mk x0 x1 x2 x3 0 x0 x1 x2 n _ _ _ _ 1 (by omega) (by omega) wd_zero H0 H1 H2 (fun i hi => zb_up1 _ _ _ _ i hi) (shl_word_zero _) (shl_word_lo _ _ H0) (shl_word _ _ _ H1 H0) (shl_word _ _ _ H2 H1), _, _, rfl⟩
theorem lsh_2 (x0 x1 x2 x3 n : Int) (h0 : 0 ≤ x0) (h0' : x0 < 18446744073709551616) (h1 : 0 ≤ x1) (h1' : x1 < 18446744073709551616) (h2 : 0 ≤ x2) (h2' : x2 < 18446744073709551616) (h3 : 0 ≤ x3) (h3' : x3 < 18446744073709551616) (hi : 128 ≤ n) (hj : n < 192) (w : World) :
    Calls Try.prog 11 #[.agg #[.int .u64 x0, .int .u64 x1, .int .u64 x2, .int .u64 x3], .int .u64 n] w fun e w' => ∃ r0 r1 r2 r3 : Int, e = .returned (.agg #[.int .u64 r0, .int .u64 r1, .int .u64 r2, .int .u64 r3]) ∧ IsShl x0 x1 x2 x3 n r0 r1 r2 r3 ∧ ∃ c1 c2 : Array Value, w' = (w.alloc (.cells c1 25)).alloc (.cells c2 25) := by
  go_enter Try.func11, Try.ntmps11
  go_wp2
  simp [bodyPost, results, Try.results11, go_sem]
  have H0 : Wd x0 := ⟨h0, h0'⟩
  have H1 : Wd x1 := ⟨h1, h1'⟩
  exact ⟨_, _, _, _, ⟨rfl, rfl, rfl, rfl⟩, shl_mk x0 x1 x2 x3 0 0 x0 x1 n _ _ _ _ 2 (by omega) (by omega) wd_zero wd_zero H0 H1 (fun i hi => zb_up2 _ _ _ _ i hi) (shl_word_zero _) (shl_word_none _) (shl_word_lo _ _ H0) (shl_word _ _ _ H1 H0), _, _, rfl⟩
theorem lsh_3 (x0 x1 x2 x3 n : Int) (h0 : 0 ≤ x0) (h0' : x0 < 18446744073709551616) (h1 : 0 ≤ x1) (h1' : x1 < 18446744073709551616) (h2 : 0 ≤ x2) (h2' : x2 < 18446744073709551616) (h3 : 0 ≤ x3) (h3' : x3 < 18446744073709551616) (hi : 192 ≤ n) (hj : n < 256) (w : World) :
    Calls Try.prog 11 #[.agg #[.int .u64 x0, .int .u64 x1, .int .u64 x2, .int .u64 x3], .int .u64 n] w fun e w' => ∃ r0 r1 r2 r3 : Int, e = .returned (.agg #[.int .u64 r0, .int .u64 r1, .int .u64 r2, .int .u64 r3]) ∧ IsShl x0 x1 x2 x3 n r0 r1 r2 r3 ∧ ∃ c1 c2 : Array Value, w' = (w.alloc (.cells c1 25)).alloc (.cells c2 25) := by
  go_enter Try.func11, Try.ntmps11
  go_wp2
  simp [bodyPost, results, Try.results11, go_sem]
  have H0 : Wd x0 := ⟨h0, h0'⟩
  exact ⟨_, _, _, _, ⟨rfl, rfl, rfl, rfl⟩, shl_mk x0 x1 x2 x3 0 0 0 x0 n _ _ _ _ 3 (by omega) (by omega) wd_zero wd_zero wd_zero H0 (fun i hi => zb_up3 _ _ _ _ i hi) (shl_word_zero _) (shl_word_none _) (shl_word_none _) (shl_word_lo _ _ H0), _, _, rfl⟩
theorem lsh_far (x0 x1 x2 x3 n : Int) (hi : 256 ≤ n) (w : World) :
    Calls Try.prog 11 #[.agg #[.int .u64 x0, .int .u64 x1, .int .u64 x2, .int .u64 x3], .int .u64 n] w fun e w' => ∃ r0 r1 r2 r3 : Int, e = .returned (.agg #[.int .u64 r0, .int .u64 r1, .int .u64 r2, .int .u64 r3]) ∧ IsShl x0 x1 x2 x3 n r0 r1 r2 r3 ∧ ∃ c1 c2 : Array Value, w' = (w.alloc (.cells c1 25)).alloc (.cells c2 25) := by
  go_enter Try.func11, Try.ntmps11
  go_wp2
  simp [bodyPost, results, Try.results11, go_sem]
  exact ⟨_, _, _, _, ⟨rfl, rfl, rfl, rfl⟩, shl_far _ _ _ _ _ hi, _, _, rfl⟩
theorem lsh (x0 x1 x2 x3 n : Int) (h0 : Wd x0) (h1 : Wd x1) (h2 : Wd x2) (h3 : Wd x3) (hn : 0 ≤ n) (w : World) :
    Calls Try.prog 11 #[.agg #[.int .u64 x0, .int .u64 x1, .int .u64 x2, .int .u64 x3], .int .u64 n] w fun e w' => ∃ r0 r1 r2 r3 : Int, e = .returned (.agg #[.int .u64 r0, .int .u64 r1, .int .u64 r2, .int .u64 r3]) ∧ IsShl x0 x1 x2 x3 n r0 r1 r2 r3 ∧ ∃ c1 c2 : Array Value, w' = (w.alloc (.cells c1 25)).alloc (.cells c2 25) := by
  have c : n < 64 ∨ (64 ≤ n ∧ n < 128) ∨ (128 ≤ n ∧ n < 192) ∨ (192 ≤ n ∧ n < 256) ∨ 256 ≤ n := by omega
  rcases c with c | ⟨c, d⟩ | ⟨c, d⟩ | ⟨c, d⟩ | c
  · exact lsh_0 x0 x1 x2 x3 n h0.1 h0.2 h1.1 h1.2 h2.1 h2.2 h3.1 h3.2 hn c w
  · exact lsh_1 x0 x1 x2 x3 n h0.1 h0.2 h1.1 h1.2 h2.1 h2.2 h3.1 h3.2 c d w
  · exact lsh_2 x0 x1 x2 x3 n h0.1 h0.2 h1.1 h1.2 h2.1 h2.2 h3.1 h3.2 c d w
  · exact lsh_3 x0 x1 x2 x3 n h0.1 h0.2 h1.1 h1.2 h2.1 h2.2 h3.1 h3.2 c d w
  · exact lsh_far x0 x1 x2 x3 n c w

/-! ### rsh -/
theorem rsh_0 (x0 x1 x2 x3 n : Int) (h0 : 0 ≤ x0) (h0' : x0 < 18446744073709551616) (h1 : 0 ≤ x1) (h1' : x1 < 18446744073709551616) (h2 : 0 ≤ x2) (h2' : x2 < 18446744073709551616) (h3 : 0 ≤ x3) (h3' : x3 < 18446744073709551616) (hi : 0 ≤ n) (hj : n < 64) (w : World) :
    Calls Try.prog 13 #[.agg #[.int .u64 x0, .int .u64 x1, .int .u64 x2, .int .u64 x3], .int .u64 n] w fun e w' => ∃ r0 r1 r2 r3 : Int, e = .returned (.agg #[.int .u64 r0, .int .u64 r1, .int .u64 r2, .int .u64 r3]) ∧ IsShr x0 x1 x2 x3 n r0 r1 r2 r3 ∧ ∃ c1 c2 : Array Value, w' = (w.alloc (.cells c1 25)).alloc (.cells c2 25) := by
  go_enter Try.func13, Try.ntmps13
  go_wp2
  simp [bodyPost, results, Try.results13, go_sem]
  have H0 : Wd x0 := ⟨h0, h0'⟩
  have H1 : Wd x1 := ⟨h1, h1'⟩
  have H2 : Wd x2 := ⟨h2, h2'⟩
  have H3 : Wd x3 := ⟨h3, h3'⟩
  exact ⟨_, _, _, _, ⟨rfl, rfl, rfl, rfl⟩, shr_mk x0 x1 x2 x3 x0 x1 x2 x3 n _ _ _ _ 0 (by omega) (by omega) H0 H1 H2 H3 (fun i hi => by simp [hi]) (shr_word _ _ _ H0 H1) (shr_word _ _ _ H1 H2) (shr_word _ _ _ H2 H3) (shr_word_last _ _ H3), _, _, rfl⟩
theorem rsh_1 (x0 x1 x2 x3 n : Int) (h0 : 0 ≤ x0) (h0' : x0 < 18446744073709551616) (h1 : 0 ≤ x1) (h1' : x1 < 18446744073709551616) (h2 : 0 ≤ x2) (h2' : x2 < 18446744073709551616) (h3 : 0 ≤ x3) (h3' : x3 < 18446744073709551616) (hi : 64 ≤ n) (hj : n < 128) (w : World) :
    Calls Try.prog 13 #[.agg #[.int .u64 x0, .int .u64 x1, .int .u64 x2, .int .u64 x3], .int .u64 n] w fun e w' => ∃ r0 r1 r2 r3 : Int, e = .returned (.agg #[.int .u64 r0, .int .u64 r1, .int .u64 r2, .int .u64 r3]) ∧ IsShr x0 x1 x2 x3 n r0 r1 r2 r3 ∧ ∃ c1 c2 : Array Value, w' = (w.alloc (.cells c1 25)).alloc (.cells c2 25) := by
  go_enter Try.func13, Try.ntmps13
  go_wp2
  simp [bodyPost, results, Try.results13, go_sem]
  have H1 : Wd x1 := ⟨h1, h1'⟩
  have H2 : Wd x2 := ⟨h2, h2'⟩
  have H3 : Wd x3 := ⟨h3, h3'⟩
  exact ⟨_, _, _, _, ⟨rfl, rfl, rfl, rfl⟩, shr_mk x0 x1 x2 x3 x1 x2 x3 0 n _ _ _ _ 1 (by omega) (by omega) H1 H2 H3 wd_zero (fun i hi => zb_dn1 _ _ _ _ i hi) (shr_word _ _ _ H1 H2) (shr_word _ _ _ H2 H3) (shr_word_hi _ _ H3) (shr_word_zero _), _, _, rfl⟩
theorem rsh_2 (x0 x1 x2 x3 n : Int) (h0 : 0 ≤ x0) (h0' : x0 < 18446744073709551616) (h1 : 0 ≤ x1) (h1' : x1 < 18446744073709551616) (h2 : 0 ≤ x2) (h2' : x2 < 18446744073709551616) (h3 : 0 ≤ x3) (h3' : x3 < 18446744073709551616) (hi : 128 ≤ n) (hj : n < 192) (w : World) :
    Calls Try.prog 13 #[.agg #[.int .u64 x0, .int .u64 x1, .int .u64 x2, .int .u64 x3], .int .u64 n] w fun e w' => ∃ r0 r1 r2 r3 : Int, e = .returned (.agg #[.int .u64 r0, .int .u64 r1, .int .u64 r2, .int .u64 r3]) ∧ IsShr x0 x1 x2 x3 n r0 r1 r2 r3 ∧ ∃ c1 c2 : Array Value, w' = (w.alloc (.cells c1 25)).alloc (.cells c2 25) := by
  go_enter Try.func13, Try.ntmps13
  go_wp2
  simp [bodyPost, results, Try.results13, go_sem]
  have H2 : Wd x2 := ⟨h2, h2'⟩
  have H3 : Wd x3 := ⟨h3, h3'⟩
  exact ⟨_, _, _, _, ⟨rfl, rfl, rfl, rfl⟩, shr_mk x0 x1 x2 x3 x2 x3 0 0 n _ _ _ _ 2 (by omega) (by omega) H2 H3 wd_zero wd_zero (fun i hi => zb_dn2 _ _ _ _ i hi) (shr_word _ _ _ H2 H3) (shr_word_hi _ _ H3) (shr_word_none _) (shr_word_zero _), _, _, rfl⟩
theorem rsh_3 (x0 x1 x2 x3 n : Int) (h0 : 0 ≤ x0) (h0' : x0 < 18446744073709551616) (h1 : 0 ≤ x1) (h1' : x1 < 18446744073709551616) (h2 : 0 ≤ x2) (h2' : x2 < 18446744073709551616) (h3 : 0 ≤ x3) (h3' : x3 < 18446744073709551616) (hi : 192 ≤ n) (hj : n < 256) (w : World) :
    Calls Try.prog 13 #[.agg #[.int .u64 x0, .int .u64 x1, .int .u64 x2, .int .u64 x3], .int .u64 n] w fun e w' => ∃ r0 r1 r2 r3 : Int, e = .returned (.agg #[.int .u64 r0, .int .u64 r1, .int .u64 r2, .int .u64 r3]) ∧ IsShr x0 x1 x2 x3 n r0 r1 r2 r3 ∧ ∃ c1 c2 : Array Value, w' = (w.alloc (.cells c1 25)).alloc (.cells c2 25) := by
  go_enter Try.func13, Try.ntmps13
  go_wp2
  simp [bodyPost, results, Try.results13, go_sem]
  have H3 : Wd x3 := ⟨h3, h3'⟩
  exact ⟨_, _, _, _, ⟨rfl, rfl, rfl, rfl⟩, shr_mk x0 x1 x2 x3 x3 0 0 0 n _ _ _ _ 3 (by omega) (by omega) H3 wd_zero wd_zero wd_zero (fun i hi => zb_dn3 _ _ _ _ i hi) (shr_word_hi _ _ H3) (shr_word_none _) (shr_word_none _) (shr_word_zero _), _, _, rfl⟩
theorem rsh_far (x0 x1 x2 x3 n : Int) (hi : 256 ≤ n) (w : World) :
    Calls Try.prog 13 #[.agg #[.int .u64 x0, .int .u64 x1, .int .u64 x2, .int .u64 x3], .int .u64 n] w fun e w' => ∃ r0 r1 r2 r3 : Int, e = .returned (.agg #[.int .u64 r0, .int .u64 r1, .int .u64 r2, .int .u64 r3]) ∧ IsShr x0 x1 x2 x3 n r0 r1 r2 r3 ∧ ∃ c1 c2 : Array Value, w' = (w.alloc (.cells c1 25)).alloc (.cells c2 25) := by
  go_enter Try.func13, Try.ntmps13
  go_wp2
  simp [bodyPost, results, Try.results13, go_sem]
  exact ⟨_, _, _, _, ⟨rfl, rfl, rfl, rfl⟩, shr_far _ _ _ _ _ hi, _, _, rfl⟩
theorem rsh (x0 x1 x2 x3 n : Int) (h0 : Wd x0) (h1 : Wd x1) (h2 : Wd x2) (h3 : Wd x3) (hn : 0 ≤ n) (w : World) :
    Calls Try.prog 13 #[.agg #[.int .u64 x0, .int .u64 x1, .int .u64 x2, .int .u64 x3], .int .u64 n] w fun e w' => ∃ r0 r1 r2 r3 : Int, e = .returned (.agg #[.int .u64 r0, .int .u64 r1, .int .u64 r2, .int .u64 r3]) ∧ IsShr x0 x1 x2 x3 n r0 r1 r2 r3 ∧ ∃ c1 c2 : Array Value, w' = (w.alloc (.cells c1 25)).alloc (.cells c2 25) := by
  have c : n < 64 ∨ (64 ≤ n ∧ n < 128) ∨ (128 ≤ n ∧ n < 192) ∨ (192 ≤ n ∧ n < 256) ∨ 256 ≤ n := by omega
  rcases c with c | ⟨c, d⟩ | ⟨c, d⟩ | ⟨c, d⟩ | c
  · exact rsh_0 x0 x1 x2 x3 n h0.1 h0.2 h1.1 h1.2 h2.1 h2.2 h3.1 h3.2 hn c w
  · exact rsh_1 x0 x1 x2 x3 n h0.1 h0.2 h1.1 h1.2 h2.1 h2.2 h3.1 h3.2 c d w
  · exact rsh_2 x0 x1 x2 x3 n h0.1 h0.2 h1.1 h1.2 h2.1 h2.2 h3.1 h3.2 c d w
  · exact rsh_3 x0 x1 x2 x3 n h0.1 h0.2 h1.1 h1.2 h2.1 h2.2 h3.1 h3.2 c d w
  · exact rsh_far x0 x1 x2 x3 n c w

/-! ### Not, isNeg -/
theorem nt (x0 x1 x2 x3 : Int) (h0 : Wd x0) (h1 : Wd x1) (h2 : Wd x2) (h3 : Wd x3) (w : World) :
    Calls Try.prog 16 #[.agg #[.int .u64 x0, .int .u64 x1, .int .u64 x2, .int .u64 x3]] w fun e w' => ∃ r0 r1 r2 r3 : Int, e = .returned (.agg #[.int .u64 r0, .int .u64 r1, .int .u64 r2, .int .u64 r3]) ∧ IsNot x0 x1 x2 x3 r0 r1 r2 r3 ∧ ∃ c1 c2 : Array Value, w' = (w.alloc (.cells c1 25)).alloc (.cells c2 25) := by
  have hs : IntKind.u64.signed = false := rfl
  go_enter Try.func16, Try.ntmps16
  go_wp2
  simp [bodyPost, results, Try.results16, go_sem]
  exact ⟨_, _, _, _, ⟨rfl, rfl, rfl, rfl⟩, not_mk _ _ _ _ h0 h1 h2 h3, _, _, rfl⟩
theorem neg (x0 x1 x2 x3 : Int) (h0 : Wd x0) (h1 : Wd x1) (h2 : Wd x2) (h3 : Wd x3) (w : World) :
    Calls Try.prog 15 #[.agg #[.int .u64 x0, .int .u64 x1, .int .u64 x2, .int .u64 x3]] w fun e w' => e = .returned (.bool (bit x0 x1 x2 x3 255)) ∧ ∃ c1 : Array Value, w' = w.alloc (.cells c1 25) := by
  have hb : (x3 / 9223372036854775808 == 1) = bit x0 x1 x2 x3 255 := top_bit x0 x1 x2 x3 h3
  have H := hide hb
  clear hb
  obtain ⟨g0, g1⟩ := h3
  go_enter Try.func15, Try.ntmps15
  go_wp2
  go_ret
  exact ⟨ret_bool H.out, _, rfl⟩

/-! ### SRsh -/
theorem sar_0 (x0 x1 x2 x3 n : Int) (h0 : Wd x0) (h1 : Wd x1) (h2 : Wd x2) (h3 : Wd x3) (hn : 0 ≤ n) (hb : bit x0 x1 x2 x3 255 = false) (w : World) :
    Calls Try.prog 14 #[.agg #[.int .u64 x0, .int .u64 x1, .int .u64 x2, .int .u64 x3], .int .u64 n] w fun e w' => ∃ r0 r1 r2 r3 : Int, e = .returned (.agg #[.int .u64 r0, .int .u64 r1, .int .u64 r2, .int .u64 r3]) ∧ IsSar x0 x1 x2 x3 n r0 r1 r2 r3 ∧ ∃ c1 c2 c3 c4 c5 : Array Value, w' = ((((w.alloc (.cells c1 25)).alloc (.cells c2 25)).alloc (.cells c3 25)).alloc (.cells c4 25)).alloc (.cells c5 25) := by
  have H := hide hb
  go_enter Try.func14, Try.ntmps14
  go_wp2_with fail
  refine (neg x0 x1 x2 x3 h0 h1 h2 h3 _).mono ?_
  rintro e w1 ⟨rfl, c1, rfl⟩
  go_wp2_with fail
  refine (rsh x0 x1 x2 x3 n h0 h1 h2 h3 hn _).mono ?_
  rintro e w1 ⟨r0, r1, r2, r3, rfl, hs, c2, c3, rfl⟩
  go_wp2_with fail
  simp [bodyPost, results, Try.results14, go_sem]
  exact ⟨_, _, _, _, ⟨rfl, rfl, rfl, rfl⟩, sar_pos H.out hs, _, _, _, _, _, rfl⟩
theorem sar_1 (x0 x1 x2 x3 n : Int) (h0 : Wd x0) (h1 : Wd x1) (h2 : Wd x2) (h3 : Wd x3) (hn : 0 ≤ n) (hb : bit x0 x1 x2 x3 255 = true) (w : World) :
    Calls Try.prog 14 #[.agg #[.int .u64 x0, .int .u64 x1, .int .u64 x2, .int .u64 x3], .int .u64 n] w fun e w' => ∃ r0 r1 r2 r3 : Int, e = .returned (.agg #[.int .u64 r0, .int .u64 r1, .int .u64 r2, .int .u64 r3]) ∧ IsSar x0 x1 x2 x3 n r0 r1 r2 r3 ∧ ∃ c1 c2 c3 c4 c5 c6 c7 c8 c9 : Array Value, w' = ((((((((w.alloc (.cells c1 25)).alloc (.cells c2 25)).alloc (.cells c3 25)).alloc (.cells c4 25)).alloc (.cells c5 25)).alloc (.cells c6 25)).alloc (.cells c7 25)).alloc (.cells c8 25)).alloc (.cells c9 25) := by
  have H := hide hb
  go_enter Try.func14, Try.ntmps14
  go_wp2_with fail
  refine (neg x0 x1 x2 x3 h0 h1 h2 h3 _).mono ?_
  rintro e w1 ⟨rfl, c1, rfl⟩
  go_wp2_with fail
  refine (nt x0 x1 x2 x3 h0 h1 h2 h3 _).mono ?_
  rintro e w1 ⟨y0, y1, y2, y3, rfl, hy, c2, c3, rfl⟩
  go_wp2_with fail
  refine (rsh y0 y1 y2 y3 n hy.w0 hy.w1 hy.w2 hy.w3 hn _).mono ?_
  rintro e w1 ⟨z0, z1, z2, z3, rfl, hz, c4, c5, rfl⟩
  go_wp2_with fail
  refine (nt z0 z1 z2 z3 hz.w0 hz.w1 hz.w2 hz.w3 _).mono ?_
  rintro e w1 ⟨r0, r1, r2, r3, rfl, hr, c6, c7, rfl⟩
  go_wp2_with fail
  simp [bodyPost, results, Try.results14, go_sem]
  exact ⟨_, _, _, _, ⟨rfl, rfl, rfl, rfl⟩, sar_neg H.out hy hz hr, _, _, _, _, _, _, _, _, _, rfl⟩
end Go.Proofs.Qxb6605502a
