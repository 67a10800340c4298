/-
  'Rows.FnSRshIsRshWithSignFillSaid': the frame is the seat's shell (written by program); the walk is filled in, callees by the contracts of Qxb6605502aCalls.
-/
import Derived.Test.Qxb6605502aRows
import Derived.Test.Qxb6605502aCalls
import Derived.WalkKit
import Derived.ProofKit
import Derived.OpenShut
import Derived.ShutString
namespace Go.Proofs.Qxb6605502a.fnSRshIsRshWithSignFill
open Go.ChangeShapes Go.WideShapes Go.ChangeAt Go.RowKit
open Go.ChangeMaps (open_string shut_string)
set_option linter.unusedVariables false      -- a walk need not use every 'w<i>' (that an integer argument fits its kind)

/-- What 'open_int' hands over of a uint64, as the contracts want it. -/
theorem wd_of {x : Int} (h : (Lit.int .u64 x).wf = true) : Wd x := by
  simp [Lit.wf, IntKind.min, IntKind.max, IntKind.signed, IntKind.bits] at h
  exact ⟨by omega, by omega⟩
theorem own : ownKnob Try.prog.godebug = none := by kernel_rfl

set_option maxRecDepth 100000 in
set_option maxHeartbeats 1600000 in
theorem walk_true (a0 : Int) (a1 : Int) (a2 : Int) (a3 : Int) (a4 : Int) (h0 : Wd a0) (h1 : Wd a1) (h2 : Wd a2) (h3 : Wd a3) (hn : 0 ≤ a4) (hn' : a4 < 18446744073709551616) (hb : bit a0 a1 a2 a3 255 = true) (w : World) :
    Calls Try.prog 8 #[.int .u64 a0, .int .u64 a1, .int .u64 a2, .int .u64 a3, .int .u64 a4] w fun e w' => e = .returned (.bool true) ∧ Grown w w' := by
  go_enter Try.func8, Try.ntmps8
  go_wp2_with fail
  refine (mk _ _ _ _ _).mono ?_
  rintro e w1 ⟨rfl, c1, rfl⟩
  go_wp2_with fail
  refine (sar_1 a0 a1 a2 a3 a4 h0 h1 h2 h3 hn hb _).mono ?_
  rintro e w2 ⟨r0, r1, r2, r3, rfl, hs, d0, d1, d2, d3, d4, d5, d6, d7, d8, rfl⟩
  go_wp2_with fail
  refine (limbs _ _ _ _ _).mono ?_
  rintro e w3 ⟨rfl, c4, rfl⟩
  go_wp2_with fail
  refine (rsh a0 a1 a2 a3 a4 h0 h1 h2 h3 hn _).mono ?_
  rintro e w2 ⟨s0, s1, s2, s3, rfl, hg, g1, g2, rfl⟩
  go_wp2_with fail
  refine (limbs _ _ _ _ _).mono ?_
  rintro e w3 ⟨rfl, c5, rfl⟩
  go_wp2_with fail
  refine (zz a0 a1 a2 a3 _ h0 h1 h2 h3 (by omega) (by omega) _).mono ?_
  rintro e w4 ⟨rfl, rfl⟩
  go_wp2_with fail
  go_loop [21] (fun i => ∃ k : Nat, k ≤ 256 ∧ i = .int .u64 k) (fun i => 256 - (intOf i).toNat)
  case atStart => exact ⟨0, by omega, rfl⟩
  case round =>
    obtain ⟨k, hk, rfl⟩ := hrel
    by_cases hlt : k < 256
    · have hc := sar_fill hs hg k (by omega) (by omega)
      rw [hb] at hc
      by_cases hge : 256 - (k : Int) ≤ a4
      · rw [decide_eq_true hge] at hc
        by_cases hz : bit s0 s1 s2 s3 k = true
        · rw [hz] at hc
          have hx : bit r0 r1 r2 r3 k = true := hc
          clear hc
          go_wp2_with fail
          refine (zz s0 s1 s2 s3 _ hg.w0 hg.w1 hg.w2 hg.w3 (by omega) (by omega) _).mono ?_
          rintro e w4 ⟨rfl, rfl⟩
          go_wp2_with fail
          refine (zz r0 r1 r2 r3 _ hs.w0 hs.w1 hs.w2 hs.w3 (by omega) (by omega) _).mono ?_
          rintro e w4 ⟨rfl, rfl⟩
          go_wp2_with fail
          go_round
          case rel => exact ⟨k + 1, by omega, by go_num⟩
          case measure => simp [intOf]; omega
        · have hz : bit s0 s1 s2 s3 k = false := by simpa using hz
          rw [hz] at hc
          have hx : bit r0 r1 r2 r3 k = true := hc
          clear hc
          go_wp2_with fail
          refine (zz s0 s1 s2 s3 _ hg.w0 hg.w1 hg.w2 hg.w3 (by omega) (by omega) _).mono ?_
          rintro e w4 ⟨rfl, rfl⟩
          go_wp2_with fail
          refine (zz r0 r1 r2 r3 _ hs.w0 hs.w1 hs.w2 hs.w3 (by omega) (by omega) _).mono ?_
          rintro e w4 ⟨rfl, rfl⟩
          go_wp2_with fail
          go_round
          case rel => exact ⟨k + 1, by omega, by go_num⟩
          case measure => simp [intOf]; omega
      · rw [decide_eq_false hge] at hc
        by_cases hz : bit s0 s1 s2 s3 k = true
        · rw [hz] at hc
          have hx : bit r0 r1 r2 r3 k = true := hc
          clear hc
          go_wp2_with fail
          refine (zz s0 s1 s2 s3 _ hg.w0 hg.w1 hg.w2 hg.w3 (by omega) (by omega) _).mono ?_
          rintro e w4 ⟨rfl, rfl⟩
          go_wp2_with fail
          refine (zz r0 r1 r2 r3 _ hs.w0 hs.w1 hs.w2 hs.w3 (by omega) (by omega) _).mono ?_
          rintro e w4 ⟨rfl, rfl⟩
          go_wp2_with fail
          go_round
          case rel => exact ⟨k + 1, by omega, by go_num⟩
          case measure => simp [intOf]; omega
        · have hz : bit s0 s1 s2 s3 k = false := by simpa using hz
          rw [hz] at hc
          have hx : bit r0 r1 r2 r3 k = false := hc
          clear hc
          go_wp2_with fail
          refine (zz s0 s1 s2 s3 _ hg.w0 hg.w1 hg.w2 hg.w3 (by omega) (by omega) _).mono ?_
          rintro e w4 ⟨rfl, rfl⟩
          go_wp2_with fail
          refine (zz r0 r1 r2 r3 _ hs.w0 hs.w1 hs.w2 hs.w3 (by omega) (by omega) _).mono ?_
          rintro e w4 ⟨rfl, rfl⟩
          go_wp2_with fail
          go_round
          case rel => exact ⟨k + 1, by omega, by go_num⟩
          case measure => simp [intOf]; omega
    · go_wp2_with fail
      go_ret
      exact ⟨rfl, ((((((((((((((((Grown.refl w).alloc _ _).alloc _ _).alloc _ _).alloc _ _).alloc _ _).alloc _ _).alloc _ _).alloc _ _).alloc _ _).alloc _ _).alloc _ _).alloc _ _).alloc _ _).alloc _ _).alloc _ _).drew.drew⟩

set_option maxRecDepth 100000 in
set_option maxHeartbeats 1600000 in
theorem walk_false (a0 : Int) (a1 : Int) (a2 : Int) (a3 : Int) (a4 : Int) (h0 : Wd a0) (h1 : Wd a1) (h2 : Wd a2) (h3 : Wd a3) (hn : 0 ≤ a4) (hn' : a4 < 18446744073709551616) (hb : bit a0 a1 a2 a3 255 = false) (w : World) :
    Calls Try.prog 8 #[.int .u64 a0, .int .u64 a1, .int .u64 a2, .int .u64 a3, .int .u64 a4] w fun e w' => e = .returned (.bool true) ∧ Grown w w' := by
  go_enter Try.func8, Try.ntmps8
  go_wp2_with fail
  refine (mk _ _ _ _ _).mono ?_
  rintro e w1 ⟨rfl, c1, rfl⟩
  go_wp2_with fail
  refine (sar_0 a0 a1 a2 a3 a4 h0 h1 h2 h3 hn hb _).mono ?_
  rintro e w2 ⟨r0, r1, r2, r3, rfl, hs, d0, d1, d2, d3, d4, rfl⟩
  go_wp2_with fail
  refine (limbs _ _ _ _ _).mono ?_
  rintro e w3 ⟨rfl, c4, rfl⟩
  go_wp2_with fail
  refine (rsh a0 a1 a2 a3 a4 h0 h1 h2 h3 hn _).mono ?_
  rintro e w2 ⟨s0, s1, s2, s3, rfl, hg, g1, g2, rfl⟩
  go_wp2_with fail
  refine (limbs _ _ _ _ _).mono ?_
  rintro e w3 ⟨rfl, c5, rfl⟩
  go_wp2_with fail
  refine (zz a0 a1 a2 a3 _ h0 h1 h2 h3 (by omega) (by omega) _).mono ?_
  rintro e w4 ⟨rfl, rfl⟩
  go_wp2_with fail
  go_loop [21] (fun i => ∃ k : Nat, k ≤ 256 ∧ i = .int .u64 k) (fun i => 256 - (intOf i).toNat)
  case atStart => exact ⟨0, by omega, rfl⟩
  case round =>
    obtain ⟨k, hk, rfl⟩ := hrel
    by_cases hlt : k < 256
    · have hc := sar_fill hs hg k (by omega) (by omega)
      rw [hb] at hc
      by_cases hge : 256 - (k : Int) ≤ a4
      · rw [decide_eq_true hge] at hc
        by_cases hz : bit s0 s1 s2 s3 k = true
        · rw [hz] at hc
          have hx : bit r0 r1 r2 r3 k = true := hc
          clear hc
          go_wp2_with fail
          refine (zz s0 s1 s2 s3 _ hg.w0 hg.w1 hg.w2 hg.w3 (by omega) (by omega) _).mono ?_
          rintro e w4 ⟨rfl, rfl⟩
          go_wp2_with fail
          refine (zz r0 r1 r2 r3 _ hs.w0 hs.w1 hs.w2 hs.w3 (by omega) (by omega) _).mono ?_
          rintro e w4 ⟨rfl, rfl⟩
          go_wp2_with fail
          go_round
          case rel => exact ⟨k + 1, by omega, by go_num⟩
          case measure => simp [intOf]; omega
        · have hz : bit s0 s1 s2 s3 k = false := by simpa using hz
          rw [hz] at hc
          have hx : bit r0 r1 r2 r3 k = false := hc
          clear hc
          go_wp2_with fail
          refine (zz s0 s1 s2 s3 _ hg.w0 hg.w1 hg.w2 hg.w3 (by omega) (by omega) _).mono ?_
          rintro e w4 ⟨rfl, rfl⟩
          go_wp2_with fail
          refine (zz r0 r1 r2 r3 _ hs.w0 hs.w1 hs.w2 hs.w3 (by omega) (by omega) _).mono ?_
          rintro e w4 ⟨rfl, rfl⟩
          go_wp2_with fail
          go_round
          case rel => exact ⟨k + 1, by omega, by go_num⟩
          case measure => simp [intOf]; omega
      · rw [decide_eq_false hge] at hc
        by_cases hz : bit s0 s1 s2 s3 k = true
        · rw [hz] at hc
          have hx : bit r0 r1 r2 r3 k = true := hc
          clear hc
          go_wp2_with fail
          refine (zz s0 s1 s2 s3 _ hg.w0 hg.w1 hg.w2 hg.w3 (by omega) (by omega) _).mono ?_
          rintro e w4 ⟨rfl, rfl⟩
          go_wp2_with fail
          refine (zz r0 r1 r2 r3 _ hs.w0 hs.w1 hs.w2 hs.w3 (by omega) (by omega) _).mono ?_
          rintro e w4 ⟨rfl, rfl⟩
          go_wp2_with fail
          go_round
          case rel => exact ⟨k + 1, by omega, by go_num⟩
          case measure => simp [intOf]; omega
        · have hz : bit s0 s1 s2 s3 k = false := by simpa using hz
          rw [hz] at hc
          have hx : bit r0 r1 r2 r3 k = false := hc
          clear hc
          go_wp2_with fail
          refine (zz s0 s1 s2 s3 _ hg.w0 hg.w1 hg.w2 hg.w3 (by omega) (by omega) _).mono ?_
          rintro e w4 ⟨rfl, rfl⟩
          go_wp2_with fail
          refine (zz r0 r1 r2 r3 _ hs.w0 hs.w1 hs.w2 hs.w3 (by omega) (by omega) _).mono ?_
          rintro e w4 ⟨rfl, rfl⟩
          go_wp2_with fail
          go_round
          case rel => exact ⟨k + 1, by omega, by go_num⟩
          case measure => simp [intOf]; omega
    · go_wp2_with fail
      go_ret
      exact ⟨rfl, ((((((((((((Grown.refl w).alloc _ _).alloc _ _).alloc _ _).alloc _ _).alloc _ _).alloc _ _).alloc _ _).alloc _ _).alloc _ _).alloc _ _).alloc _ _).drew.drew⟩

/-! ### STEP 1: THE WALK: the Go text returns true. 'Grown w w'': the world has at most new blocks (Derived/RowKit3.lean). Part the cases AHEAD of 'go_enter' where a test parts the walk; take each callee by a contract of your own. -/
set_option maxRecDepth 100000 in
set_option maxHeartbeats 800000 in
theorem walk (a0 : Int) (a1 : Int) (a2 : Int) (a3 : Int) (a4 : Int) (w0 : (Lit.int .u64 a0).wf = true) (w1 : (Lit.int .u64 a1).wf = true) (w2 : (Lit.int .u64 a2).wf = true) (w3 : (Lit.int .u64 a3).wf = true) (w4 : (Lit.int .u64 a4).wf = true) (w : World) :
    Calls Try.prog 8 #[.int .u64 a0, .int .u64 a1, .int .u64 a2, .int .u64 a3, .int .u64 a4] w fun e w' => e = .returned (.bool true) ∧ Grown w w' := by
  have h0 : Wd a0 := wd_of w0
  have h1 : Wd a1 := wd_of w1
  have h2 : Wd a2 := wd_of w2
  have h3 : Wd a3 := wd_of w3
  obtain ⟨hn, hn'⟩ : Wd a4 := wd_of w4
  by_cases hb : bit a0 a1 a2 a3 255 = true
  · exact walk_true a0 a1 a2 a3 a4 h0 h1 h2 h3 hn hn' hb w
  · exact walk_false a0 a1 a2 a3 a4 h0 h1 h2 h3 hn hn' (by simpa using hb) w

/-! ### THE ROW's STEP: WRITTEN OUT: LEAVE IT -/
set_option maxRecDepth 100000 in
theorem lifted (os : Os) (started : os.Started) (H : Type) (enc : TypeId × Value → H) :
    ReturnsInHanded {} Try.checked os 8 .any (Rows.fnSRshIsRshWithSignFillSpec.pre6 enc Try.prog Try.f8 Rows.fnSRshIsRshWithSignFillRow.domain false) (Rows.fnSRshIsRshWithSignFillSpec.post enc Try.prog Try.f8 false true false false) := by
  refine returnsInHanded_of_change (C := Try.checked) own started (by kernel_rfl) Try.func8
    (ChangeSpec.witness6 (enc := enc) (C := Try.checked) false ⟨#[], #[.int .u64 0, .int .u64 0, .int .u64 0, .int .u64 0, .int .u64 0], []⟩ 8 (by kernel_rfl) (by kernel_rfl) (by kernel_rfl) (by kernel_rfl)) ?_
  intro W base args ds gs before hval0 hW hcnd _
  have hval : ∀ (j : Nat) t v, Try.f8.params[j]? = some t → args[j]? = some v → Value.okWide Try.prog W .any base t v := hval0
  have hW' := hW
  obtain ⟨p, q, hA0, hV, rfl, hfz, hnd⟩ := hW
  have hA : DataW.TrodAll enc Try.prog W 0 (fun _ => true) true Try.f8.params.toList args.toList ds p := hA0
  rw [Try.params8] at hA hval
  obtain ⟨v0, vs0, d0, ds0, p0, q0, hargs, rfl, rfl, h0, r0⟩ := trodAll_cons hA
  obtain ⟨v1, vs1, d1, ds1, p1, q1, rfl, rfl, rfl, h1, r1⟩ := trodAll_cons r0
  obtain ⟨v2, vs2, d2, ds2, p2, q2, rfl, rfl, rfl, h2, r2⟩ := trodAll_cons r1
  obtain ⟨v3, vs3, d3, ds3, p3, q3, rfl, rfl, rfl, h3, r3⟩ := trodAll_cons r2
  obtain ⟨v4, vs4, d4, ds4, p4, q4, rfl, rfl, rfl, h4, r4⟩ := trodAll_cons r3
  obtain ⟨rfl, rfl, rfl⟩ := trodAll_nil r4
  obtain rfl : args = #[v0, v1, v2, v3, v4] := by cases args; simp_all
  obtain ⟨rfl, rfl⟩ := trodVars_none hV
  obtain ⟨a0, rfl, rfl, rfl, w0⟩ := open_int Try.underlying22 (hval 0 22 v0 rfl rfl) h0
  obtain ⟨a1, rfl, rfl, rfl, w1⟩ := open_int Try.underlying22 (hval 1 22 v1 rfl rfl) h1
  obtain ⟨a2, rfl, rfl, rfl, w2⟩ := open_int Try.underlying22 (hval 2 22 v2 rfl rfl) h2
  obtain ⟨a3, rfl, rfl, rfl, w3⟩ := open_int Try.underlying22 (hval 3 22 v3 rfl rfl) h3
  obtain ⟨a4, rfl, rfl, rfl, w4⟩ := open_int Try.underlying23 (hval 4 23 v4 rfl rfl) h4
  clear hA0 hval0
  simp only [List.append_nil] at hW'
  refine (walk a0 a1 a2 a3 a4 w0 w1 w2 w3 w4 W).mono fun e W' ⟨he, hg⟩ => ?_
  subst he
  exact ⟨_, rfl, post_of_same (pa := []) (pv := []) hW' (fun _ _ _ => (trodAll_cons_mk (shut_bool Try.underlying4 _) trodAll_mk0)) (fun sp _ => (trodAll_cons_mk (shut_int Try.underlying22 w0) (trodAll_cons_mk (shut_int Try.underlying22 w1) (trodAll_cons_mk (shut_int Try.underlying22 w2) (trodAll_cons_mk (shut_int Try.underlying22 w3) (trodAll_cons_mk (shut_int Try.underlying23 w4) trodAll_mk0)))))) (fun _ _ => rfl) rfl
    (hg.frame _) hg.2.1 (ok_one (by kernel_rfl) rfl (okWide_bool_mk Try.underlying4 _))⟩

theorem over : Rows.fnSRshIsRshWithSignFillRow.holds Try.pinned (OpenSpec.ofChange Rows.fnSRshIsRshWithSignFillSpec) :=
  OpenClaim.holds_of_wide 8 Try.f8 rfl rfl rfl rfl rfl rfl rfl ⟨rfl, rfl, rfl, rfl, rfl⟩ rfl rfl rfl rfl rfl (by kernel_rfl) Try.func8 (by kernel_rfl)
    (of_decide_eq_true (by kernel_rfl)) (by unfold Func.isWrapper; first | (rw [if_pos (by decide +kernel)]; kernel_rfl) | (rw [if_neg (by decide +kernel)]; exact ⟨rfl, rfl⟩))
    (fun os started H enc _ => lifted os started H enc)

/-- ████ THE STATEMENT ████ -/
theorem proved : Rows.FnSRshIsRshWithSignFillSaid :=
  over
#print axioms proved
end Go.Proofs.Qxb6605502a.fnSRshIsRshWithSignFill
