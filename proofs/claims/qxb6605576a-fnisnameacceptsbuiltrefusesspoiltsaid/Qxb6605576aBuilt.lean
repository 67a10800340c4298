/-
  The walk of FnIsNameAcceptsBuiltRefusesSpoilt at a string of at most 1 MiB: callees by the contracts of Qxb6605576aCalls, memory by the laws of Qxb6605576aMem.
-/
import Derived.Test.Qxb6605576aMem
import Derived.Deep.CutRange
namespace Go.Proofs.Qxb6605576a
open Go.RowKit
set_option linter.unusedVariables false      -- the walk uses bounds by omega alone
set_option maxRecDepth 100000 in
set_option maxHeartbeats 800000 in
theorem built (s : ByteArray) (hs : s.size ≤ 1048576) (w : World) :
    Calls Try.prog 4 #[.string s] w fun e w' => e = .returned (.bool true) ∧ Below w.heap.size w w' := by
  have hg := get_byt s
  have hgl := get_lead
  have hgr := get_rest
  go_enter Try.func4, Try.ntmps4
  go_wp2_with fail
  refine (small8 s _ hs).mono ?_
  rintro e w1 ⟨rfl, rfl⟩
  go_upto_if 25 with fail
  go_cut [3] from 16 (fun m wx => (∃ M : Nat, m = .int .i64 M ∧ M ≤ 63 ∧ M ≤ s.size) ∧ wx = w1)
  case first =>
    by_cases h : 63 < s.size
    · go_wp2
      go_meet
      case rel => exact ⟨⟨63, rfl, by omega, by omega⟩, rfl⟩
    · go_wp2
      go_meet
      case rel => exact ⟨⟨s.size, rfl, by omega, by omega⟩, rfl⟩
  case rest =>
    obtain ⟨⟨M0, rfl, hM1, hM2⟩, rfl⟩ := hcut
    go_upto_if 27 with fail
    go_cut [3] from 16 (fun m wx => (∃ M : Nat, m = .int .i64 M ∧ 1 ≤ M ∧ M ≤ 63 ∧ (M = 1 ∨ M ≤ s.size)) ∧ wx = wc)
    case first =>
      by_cases h : M0 = 0
      · have hb : ((M0 : Int) == 0) = true := beq_iff_eq.2 (by omega)
        clear h
        go_wp2
        go_meet
        case rel => exact ⟨⟨1, rfl, by omega, by omega, Or.inl rfl⟩, rfl⟩
      · have hb : ((M0 : Int) == 0) = false := beq_eq_false_iff_ne.2 (by omega)
        go_wp2
        go_meet
        case rel => exact ⟨⟨M0, rfl, by omega, by omega, Or.inr hM2⟩, rfl⟩
    case rest =>
      clear hM1 hM2
      obtain ⟨⟨M, rfl, hM1, hM2, hM3⟩, rfl⟩ := hcut
      go_upto_if 30 with fail
      go_cut [4] from 16 (fun f wx => (∃ F : Int, f = .int .u8 F ∧ 0 ≤ F ∧ F ≤ 255) ∧ wx = wc)
      case first =>
        by_cases h : 0 < s.size
        · have b0 := byt_nonneg s 0
          have b1 := byt_le s 0
          go_wp2
          go_meet
          case rel => exact ⟨⟨byt s 0, rfl, b0, b1⟩, rfl⟩
        · go_wp2
          go_meet
          case rel => exact ⟨⟨97, rfl, by omega, by omega⟩, rfl⟩
      case rest =>
        obtain ⟨⟨F, rfl, hF1, hF2⟩, rfl⟩ := hcut
        obtain ⟨w0, hw0⟩ : ∃ w0, w0 = wc := ⟨wc, rfl⟩
        subst hw0
        go_wp2_with (refine wp_make M rfl _ _ rfl .i64 .i64 rfl rfl (by omega) ?_; intro w1 hR hB; have hc0 : w1.cell? ⟨w0.heap.size, 0, none⟩ = some (.int .u8 0) := hR.cell0 hM1; have hf0 : w1.frozen? ⟨w0.heap.size, 0, none⟩ = false := hR.free 0)
        go_loopw [6] (fun i wr => ∃ (k : Nat) (L : List Int), 1 ≤ k ∧ k ≤ M ∧ i = .int .i64 k ∧ Tok wr w0 w0.heap.size M k L) (fun i _ => M - (intOf i).toNat)
        case atStart =>
          exact ⟨1, _, by omega, hM1, rfl, Tok.start hR hB hM1 _ (lead_at F hF1) (byt_nonneg _ _) (byt_le _ _)⟩
        case round =>
          obtain ⟨k, L, hk1, hk2, rfl, hT⟩ := hrel
          clear hc0 hf0
          by_cases hlt : k < M
          · have hks : k < s.size := by omega
            have hck : wr.cell? ⟨w0.heap.size, k, none⟩ = some (.int .u8 (L.getD k 0)) := hT.row.cell k (by rw [hT.len]; exact hlt)
            have hfk : wr.frozen? ⟨w0.heap.size, k, none⟩ = false := hT.row.free k
            have b0 := byt_nonneg s k
            have b1 := byt_le s k
            go_wp2
            go_roundw
            case rel =>
              exact ⟨k + 1, _, by omega, by omega, by go_num, hT.step hk1 hlt _ (rest_at _ b0) (byt_nonneg _ _) (byt_le _ _)⟩
            case measure => simp [intOf]; omega
          · have hgd := hide (hT.good (by omega) hM1 hM2)
            go_wp2_with (refine wp_str rfl _ rfl w0.heap.size M M L rfl hT.row hT.len ?_)
            refine (zzNm (strOf L) _ (by rw [strOf_size, hT.len]; unfold maxLen; omega)).mono ?_
            rintro e wA ⟨he, rfl⟩
            have he' := he.bool (b := true) ⟨fun _ => rfl, fun _ => hgd.out⟩
            clear he
            subst he'
            go_wp2_with (first | (refine wp_make 64 rfl _ _ rfl .i64 .i64 rfl rfl (by omega) ?_; intro w2 hR2 hB2; have hT2 := hT.row.below hB2 hT.row.lt) | (refine wp_copy rfl _ _ rfl wA.heap.size w0.heap.size 64 M 64 M _ L rfl rfl hR2 hT2 (by simp) hT.len (by omega) ?_; intro w3 hR3 hB3; have hT3 := hT2.below hB3 hT.row.lt))
            go_loopw [9] (fun i wr => ∃ (k2 : Nat) (L2 : List Int), k2 ≤ 64 ∧ i = .int .i64 k2 ∧ Row wr wA.heap.size L2 ∧ L2.length = 64 ∧ Row wr w0.heap.size L ∧ Below wA.heap.size wA wr) (fun i _ => 64 - (intOf i).toNat)
            case atStart => exact ⟨M, _, by omega, rfl, hR3, by simp [hT.len]; omega, hT3, hB2.trans hB3⟩
            case round =>
              clear hR3 hB3 hT3 hR2 hB2 hT2 hR hB
              obtain ⟨k2, L2, hk3, rfl, hRl, hlen2, hTL, hBl⟩ := hrel
              by_cases hlt2 : k2 < 64
              · have hck : wr.cell? ⟨wA.heap.size, k2, none⟩ = some (.int .u8 (L2.getD k2 0)) := hRl.cell k2 (by rw [hlen2]; exact hlt2)
                have hfk : wr.frozen? ⟨wA.heap.size, k2, none⟩ = false := hRl.free k2
                have hne := hT.row.lt
                go_wp2
                go_roundw
                case rel => exact ⟨k2 + 1, _, by omega, by go_num, hRl.set k2 48, by rw [List.length_set]; exact hlen2, hTL.other (Nat.ne_of_gt hne) _, hBl.setCell (Nat.le_refl _) _⟩
                case measure => simp [intOf]; omega
              · have hbad := hide (long_bad L2 hlen2)
                go_wp2_with (refine wp_str rfl _ rfl wA.heap.size 64 64 L2 rfl hRl hlen2 ?_)
                refine (zzNm (strOf L2) _ (by rw [strOf_size, hlen2]; unfold maxLen; omega)).mono ?_
                rintro e wB ⟨he, rfl⟩
                have he' := he.bool (b := false) ⟨fun h => absurd h hbad.out, fun h => by cases h⟩
                clear he hbad
                subst he'
                have hBB : Below w0.heap.size w0 wB := hT.bel.trans (hBl.mono (Nat.le_of_lt hT.row.lt))
                clear hRl hlen2 hBl
                go_wp2_with (first | (refine wp_make M rfl _ _ rfl .i64 .i64 rfl rfl (by omega) ?_; intro w4 hR4 hB4; have hT4 := hTL.below hB4 hTL.lt) | (refine wp_copy rfl _ _ rfl wB.heap.size w0.heap.size M M M M _ L rfl rfl hR4 hT4 (by simp) hT.len (by omega) ?_; intro w5 hR5 hB5; rw [copied L M hT.len] at hR5; have hT5 := hT4.below hB5 hTL.lt; have hc5 : w5.cell? ⟨wB.heap.size, 0, none⟩ = some (.int .u8 (L.getD 0 0)) := hR5.cell 0 (by rw [hT.len]; omega); have hf5 := hR5.free 0) | (refine wp_str rfl _ rfl wB.heap.size M M _ rfl (hR5.set 0 _) (by rw [List.length_set]; exact hT.len) ?_))
                have hlt0 : 0 < L.length := by rw [hT.len]; omega
                have hbad := hide (set_bad L hT.inb 0 hlt0 (byt rest (62 + F % 3).toNat) (byt_nonneg _ _) (byt_le _ _) (tail_bad F hF1))
                refine (zzNm _ _ (by rw [strOf_size, List.length_set, hT.len]; unfold maxLen; omega)).mono ?_
                rintro e wC ⟨he, hw⟩
                have he' := he.bool (b := false) ⟨fun h => absurd h hbad.out, fun h => by cases h⟩
                have hTC : Row wC w0.heap.size L := by rw [hw]; exact hT5.other (Nat.ne_of_gt hTL.lt) _
                have hBC : Below w0.heap.size w0 wC := by rw [hw]; exact hBB.trans (((hB4.trans hB5).setCell (Nat.le_refl _) _).mono (Nat.le_of_lt hTL.lt))
                clear hw he hbad hc5 hf5 hT5 hR5 hB5 hT4 hR4 hB4 hBB hTL
                subst he'
                go_wp2_with fail
                refine (inRest F hF1 hF2 _).mono ?_
                rintro e wD ⟨rfl, rfl⟩
                go_upto_if 90 with fail
                go_cut [13] from 88 (fun b wx => (∃ Bd : Int, b = .int .u8 Bd ∧ 0 ≤ Bd ∧ Bd ≤ 255 ∧ rs Bd = false) ∧ wx = wD)
                case first =>
                  go_wp2
                  · have h : (!rs F) = true := by assumption
                    have h2 : rs F = false := by simpa using h
                    go_meet
                    case rel => exact ⟨⟨F, rfl, hF1, hF2, h2⟩, rfl⟩
                  · go_meet
                    case rel => exact ⟨⟨47, rfl, by omega, by omega, slash_bad⟩, rfl⟩
                case rest =>
                  obtain ⟨⟨Bd, rfl, hd0, hd1, hd2⟩, rfl⟩ := hcut
                  have hlt1 : M / 2 < L.length := by rw [hT.len]; omega
                  have hbad := hide (set_bad L hT.inb (M / 2) hlt1 Bd hd0 hd1 (rs_bad _ _ hd2))
                  clear hd2
                  go_wp2_with (first | (refine wp_make M rfl _ _ rfl .i64 .i64 rfl rfl (by omega) ?_; intro w6 hR6 hB6; have hT6 := hTC.below hB6 hTC.lt) | (refine wp_copy rfl _ _ rfl wc.heap.size w0.heap.size M M M M _ L rfl rfl hR6 hT6 (by simp) hT.len (by omega) ?_; intro w7 hR7 hB7; rw [copied L M hT.len] at hR7; have hc7 := hR7.cell (M / 2) hlt1; have hf7 := hR7.free (M / 2)) | (refine wp_str rfl _ rfl wc.heap.size M M _ rfl (hR7.set (M / 2) _) (by rw [List.length_set]; exact hT.len) ?_))
                  refine (zzNm _ _ (by rw [strOf_size, List.length_set, hT.len]; unfold maxLen; omega)).mono ?_
                  rintro e wE ⟨he, hw⟩
                  have he' := he.bool (b := false) ⟨fun h => absurd h hbad.out, fun h => by cases h⟩
                  have hBE := hide (hBC.trans (((hB6.trans hB7).setCell (p := ⟨wc.heap.size, M / 2, none⟩) (Nat.le_refl _) (.int .u8 Bd)).mono (Nat.le_of_lt hTC.lt)))
                  rw [← hw] at hBE
                  clear hw he hbad hc7 hf7 hR7 hB7 hT6 hR6 hB6 hTC hBC
                  subst he'
                  go_wp2_with fail
                  go_ret
                  exact ⟨rfl, hBE.out⟩
end Go.Proofs.Qxb6605576a
