import Derived.Test.Qxb6605576aRows
import Derived.Test.Qxb6605576aPlain
import Derived.WalkKit
import Derived.WalkSpells
import Derived.RowKit3
namespace Go.Proofs.Qxb6605576a
open Go.RowKit
set_option linter.unusedVariables false      -- the walk uses bounds by omega alone

theorem hide {p : Prop} (h : p) : Hid p := h
/-- It returned a bool: whether p holds. (A name of its own: the walk's simp does not open it.) -/
def Tells (e : Ending) (p : Prop) : Prop := ∃ b : Bool, e = .returned (.bool b) ∧ (b = true ↔ p)
theorem Tells.yes {p : Prop} (h : p) : Tells (.returned (.bool true)) p := ⟨true, rfl, ⟨fun _ => h, fun _ => rfl⟩⟩
theorem Tells.no {p : Prop} (h : ¬ p) : Tells (.returned (.bool false)) p := ⟨false, rfl, ⟨fun g => (by cases g), fun g => absurd g h⟩⟩
/-- No byte ahead of place k is c. -/
def Clear (s : ByteArray) (c : Int) (k : Nat) : Prop := ∀ j, j < k → byt s j ≠ c
theorem Clear.step {s : ByteArray} {c : Int} {k : Nat} (h : Clear s c k) (g : byt s k ≠ c) : Clear s c (k + 1) := by
  intro j hj
  by_cases e : j = k
  · rw [e]; exact g
  · exact h j (by omega)
/-- Every byte ahead of place k may stand where it stands. -/
def OkTo (s : ByteArray) (k : Nat) : Prop := ∀ j, j < k → okB j (byt s j) = true
theorem OkTo.step {s : ByteArray} {k : Nat} (h : OkTo s k) (g : okB k (byt s k) = true) : OkTo s (k + 1) := by
  intro j hj
  by_cases e : j = k
  · rw [e]; exact g
  · exact h j (by omega)
theorem bad_at {s : ByteArray} {k : Nat} (hk : k < s.size) (g : okB k (byt s k) = false) : ¬ Good s := by
  intro h
  have := h.ok k hk
  rw [g] at this
  cases this

set_option maxHeartbeats 400000 in
theorem inAlpha (s : ByteArray) (c : Int) (w : World) (hs : s.size ≤ maxLen) :
    Calls Try.prog 9 #[.string s, .int .u8 c] w fun e w' => Tells e (∃ j, j < s.size ∧ byt s j = c) ∧ w' = w := by
  unfold maxLen at hs
  have hg := get_byt s
  go_enter Try.func9, Try.ntmps9
  go_wp2
  go_loop [5] (fun i => ∃ k : Nat, k ≤ s.size ∧ i = .int .i64 k ∧ Clear s c k) (fun i => s.size - (intOf i).toNat)
  case atStart => exact ⟨0, Nat.zero_le _, rfl, fun j hj => absurd hj (by omega)⟩
  case round =>
    obtain ⟨k, hk, rfl, hno⟩ := hrel
    by_cases hlt : k < s.size
    · by_cases he : byt s k = c
      · have hE : (byt s k == c) = true := beq_iff_eq.2 he
        have HE : Hid (byt s k = c) := he
        clear he
        go_wp2
        go_ret
        exact ⟨Tells.yes ⟨k, hlt, HE.out⟩, rfl⟩
      · have hE : (byt s k == c) = false := beq_eq_false_iff_ne.2 he
        have HE : Hid (byt s k ≠ c) := he
        clear he
        go_wp2
        go_round
        case rel => exact ⟨k + 1, by omega, by go_num, hno.step HE.out⟩
        case measure => simp [intOf]; omega
    · go_wp2
      go_ret
      exact ⟨Tells.no (fun ⟨j, hj, he⟩ => hno j (by omega) he), rfl⟩

set_option maxRecDepth 100000 in
set_option maxHeartbeats 3200000 in
theorem isNm (s : ByteArray) (w : World) (hs : s.size ≤ maxLen) :
    Calls Try.prog 10 #[.string s] w fun e w' => Tells e (Good s) ∧ w' = w := by
  unfold maxLen at hs
  have hg := get_byt s
  by_cases hz : s.size = 0
  · have hZ : ((s.size : Int) == 0) = true := beq_iff_eq.2 (by omega)
    have HZ : Hid (s.size = 0) := hz
    clear hz
    go_enter Try.func10, Try.ntmps10
    go_wp2
    go_ret
    exact ⟨Tells.no (fun h => absurd HZ.out (by have := h.some; omega)), rfl⟩
  by_cases hl : 63 < s.size
  · have hZ : ((s.size : Int) == 0) = false := beq_eq_false_iff_ne.2 (by omega)
    go_enter Try.func10, Try.ntmps10
    go_wp2
    go_ret
    exact ⟨Tells.no (fun h => absurd hl (by have := h.few; omega)), rfl⟩
  have hZ : ((s.size : Int) == 0) = false := beq_eq_false_iff_ne.2 (by omega)
  go_enter Try.func10, Try.ntmps10
  go_wp2
  go_loop [3] (fun i => ∃ k : Nat, k ≤ s.size ∧ i = .int .i64 k ∧ OkTo s k) (fun i => s.size - (intOf i).toNat)
  case atStart => exact ⟨0, Nat.zero_le _, rfl, fun j hj => absurd hj (by omega)⟩
  case round =>
    obtain ⟨k, hk, rfl, hok⟩ := hrel
    by_cases hlt : k < s.size
    · have b0 := byt_nonneg s k
      have b1 := byt_le s k
      have bc := byte_cases (byt s k) b0 b1
      by_cases hk0 : k = 0
      · have HK : Hid (k = 0) := hk0
        have hK : ((k : Int) == 0) = true := beq_iff_eq.2 (by omega)
        clear hk0
        rcases bc with hc | hc | hc | hc | ⟨hc, hd⟩ | ⟨hc, hd⟩ | ⟨hc, hd⟩ | ⟨hc, hd⟩ | hc | hc | ⟨hc, hd⟩ | hc
        · have HV : Hid (okB k (byt s k) = false) := no_al _ _ HK.out (by omega)
          have p1 : decide (97 ≤ byt s k) = false := decide_eq_false (by omega)
          have p3 : decide (65 ≤ byt s k) = false := decide_eq_false (by omega)
          have p5 : decide (48 ≤ byt s k) = false := decide_eq_false (by omega)
          have p2 : decide (byt s k ≤ 122) = true := decide_eq_true (by omega)
          have p4 : decide (byt s k ≤ 90) = true := decide_eq_true (by omega)
          have p6 : decide (byt s k ≤ 57) = true := decide_eq_true (by omega)
          go_wp2
          go_ret
          exact ⟨Tells.no (bad_at hlt HV.out), rfl⟩
        · have HV : Hid (okB k (byt s k) = false) := no_al _ _ HK.out (by omega)
          have c0 : 45 ≤ byt s k := by omega
          have c1 : byt s k ≤ 45 := by omega
          clear hc
          have p1 : decide (97 ≤ byt s k) = false := decide_eq_false (by omega)
          have p3 : decide (65 ≤ byt s k) = false := decide_eq_false (by omega)
          have p5 : decide (48 ≤ byt s k) = false := decide_eq_false (by omega)
          have p2 : decide (byt s k ≤ 122) = true := decide_eq_true (by omega)
          have p4 : decide (byt s k ≤ 90) = true := decide_eq_true (by omega)
          have p6 : decide (byt s k ≤ 57) = true := decide_eq_true (by omega)
          go_wp2
          go_ret
          exact ⟨Tells.no (bad_at hlt HV.out), rfl⟩
        · have HV : Hid (okB k (byt s k) = false) := no_al _ _ HK.out (by omega)
          have c0 : 46 ≤ byt s k := by omega
          have c1 : byt s k ≤ 46 := by omega
          clear hc
          have p1 : decide (97 ≤ byt s k) = false := decide_eq_false (by omega)
          have p3 : decide (65 ≤ byt s k) = false := decide_eq_false (by omega)
          have p5 : decide (48 ≤ byt s k) = false := decide_eq_false (by omega)
          have p2 : decide (byt s k ≤ 122) = true := decide_eq_true (by omega)
          have p4 : decide (byt s k ≤ 90) = true := decide_eq_true (by omega)
          have p6 : decide (byt s k ≤ 57) = true := decide_eq_true (by omega)
          go_wp2
          go_ret
          exact ⟨Tells.no (bad_at hlt HV.out), rfl⟩
        · have HV : Hid (okB k (byt s k) = false) := no_al _ _ HK.out (by omega)
          have c0 : 47 ≤ byt s k := by omega
          have c1 : byt s k ≤ 47 := by omega
          clear hc
          have p1 : decide (97 ≤ byt s k) = false := decide_eq_false (by omega)
          have p3 : decide (65 ≤ byt s k) = false := decide_eq_false (by omega)
          have p5 : decide (48 ≤ byt s k) = false := decide_eq_false (by omega)
          have p2 : decide (byt s k ≤ 122) = true := decide_eq_true (by omega)
          have p4 : decide (byt s k ≤ 90) = true := decide_eq_true (by omega)
          have p6 : decide (byt s k ≤ 57) = true := decide_eq_true (by omega)
          go_wp2
          go_ret
          exact ⟨Tells.no (bad_at hlt HV.out), rfl⟩
        · have HV : Hid (okB k (byt s k) = true) := ok_al _ _ (by omega)
          have p1 : decide (97 ≤ byt s k) = false := decide_eq_false (by omega)
          have p3 : decide (65 ≤ byt s k) = false := decide_eq_false (by omega)
          have p5 : decide (48 ≤ byt s k) = true := decide_eq_true (by omega)
          have p2 : decide (byt s k ≤ 122) = true := decide_eq_true (by omega)
          have p4 : decide (byt s k ≤ 90) = true := decide_eq_true (by omega)
          have p6 : decide (byt s k ≤ 57) = true := decide_eq_true (by omega)
          go_wp2
          go_round
          case rel => exact ⟨k + 1, by omega, by go_num, hok.step HV.out⟩
          case measure => simp [intOf]; omega
        · have HV : Hid (okB k (byt s k) = false) := no_al _ _ HK.out (by omega)
          have p1 : decide (97 ≤ byt s k) = false := decide_eq_false (by omega)
          have p3 : decide (65 ≤ byt s k) = false := decide_eq_false (by omega)
          have p5 : decide (48 ≤ byt s k) = true := decide_eq_true (by omega)
          have p2 : decide (byt s k ≤ 122) = true := decide_eq_true (by omega)
          have p4 : decide (byt s k ≤ 90) = true := decide_eq_true (by omega)
          have p6 : decide (byt s k ≤ 57) = false := decide_eq_false (by omega)
          go_wp2
          go_ret
          exact ⟨Tells.no (bad_at hlt HV.out), rfl⟩
        · have HV : Hid (okB k (byt s k) = true) := ok_al _ _ (by omega)
          have p1 : decide (97 ≤ byt s k) = false := decide_eq_false (by omega)
          have p3 : decide (65 ≤ byt s k) = true := decide_eq_true (by omega)
          have p5 : decide (48 ≤ byt s k) = true := decide_eq_true (by omega)
          have p2 : decide (byt s k ≤ 122) = true := decide_eq_true (by omega)
          have p4 : decide (byt s k ≤ 90) = true := decide_eq_true (by omega)
          have p6 : decide (byt s k ≤ 57) = false := decide_eq_false (by omega)
          go_wp2
          go_round
          case rel => exact ⟨k + 1, by omega, by go_num, hok.step HV.out⟩
          case measure => simp [intOf]; omega
        · have HV : Hid (okB k (byt s k) = false) := no_al _ _ HK.out (by omega)
          have p1 : decide (97 ≤ byt s k) = false := decide_eq_false (by omega)
          have p3 : decide (65 ≤ byt s k) = true := decide_eq_true (by omega)
          have p5 : decide (48 ≤ byt s k) = true := decide_eq_true (by omega)
          have p2 : decide (byt s k ≤ 122) = true := decide_eq_true (by omega)
          have p4 : decide (byt s k ≤ 90) = false := decide_eq_false (by omega)
          have p6 : decide (byt s k ≤ 57) = false := decide_eq_false (by omega)
          go_wp2
          go_ret
          exact ⟨Tells.no (bad_at hlt HV.out), rfl⟩
        · have HV : Hid (okB k (byt s k) = false) := no_al _ _ HK.out (by omega)
          have c0 : 95 ≤ byt s k := by omega
          have c1 : byt s k ≤ 95 := by omega
          clear hc
          have p1 : decide (97 ≤ byt s k) = false := decide_eq_false (by omega)
          have p3 : decide (65 ≤ byt s k) = true := decide_eq_true (by omega)
          have p5 : decide (48 ≤ byt s k) = true := decide_eq_true (by omega)
          have p2 : decide (byt s k ≤ 122) = true := decide_eq_true (by omega)
          have p4 : decide (byt s k ≤ 90) = false := decide_eq_false (by omega)
          have p6 : decide (byt s k ≤ 57) = false := decide_eq_false (by omega)
          go_wp2
          go_ret
          exact ⟨Tells.no (bad_at hlt HV.out), rfl⟩
        · have HV : Hid (okB k (byt s k) = false) := no_al _ _ HK.out (by omega)
          have c0 : 96 ≤ byt s k := by omega
          have c1 : byt s k ≤ 96 := by omega
          clear hc
          have p1 : decide (97 ≤ byt s k) = false := decide_eq_false (by omega)
          have p3 : decide (65 ≤ byt s k) = true := decide_eq_true (by omega)
          have p5 : decide (48 ≤ byt s k) = true := decide_eq_true (by omega)
          have p2 : decide (byt s k ≤ 122) = true := decide_eq_true (by omega)
          have p4 : decide (byt s k ≤ 90) = false := decide_eq_false (by omega)
          have p6 : decide (byt s k ≤ 57) = false := decide_eq_false (by omega)
          go_wp2
          go_ret
          exact ⟨Tells.no (bad_at hlt HV.out), rfl⟩
        · have HV : Hid (okB k (byt s k) = true) := ok_al _ _ (by omega)
          have p1 : decide (97 ≤ byt s k) = true := decide_eq_true (by omega)
          have p3 : decide (65 ≤ byt s k) = true := decide_eq_true (by omega)
          have p5 : decide (48 ≤ byt s k) = true := decide_eq_true (by omega)
          have p2 : decide (byt s k ≤ 122) = true := decide_eq_true (by omega)
          have p4 : decide (byt s k ≤ 90) = false := decide_eq_false (by omega)
          have p6 : decide (byt s k ≤ 57) = false := decide_eq_false (by omega)
          go_wp2
          go_round
          case rel => exact ⟨k + 1, by omega, by go_num, hok.step HV.out⟩
          case measure => simp [intOf]; omega
        · have HV : Hid (okB k (byt s k) = false) := no_al _ _ HK.out (by omega)
          have p1 : decide (97 ≤ byt s k) = true := decide_eq_true (by omega)
          have p3 : decide (65 ≤ byt s k) = true := decide_eq_true (by omega)
          have p5 : decide (48 ≤ byt s k) = true := decide_eq_true (by omega)
          have p2 : decide (byt s k ≤ 122) = false := decide_eq_false (by omega)
          have p4 : decide (byt s k ≤ 90) = false := decide_eq_false (by omega)
          have p6 : decide (byt s k ≤ 57) = false := decide_eq_false (by omega)
          go_wp2
          go_ret
          exact ⟨Tells.no (bad_at hlt HV.out), rfl⟩
      · have HK : Hid (k ≠ 0) := hk0
        have hK : ((k : Int) == 0) = false := beq_eq_false_iff_ne.2 (by omega)
        clear hk0
        rcases bc with hc | hc | hc | hc | ⟨hc, hd⟩ | ⟨hc, hd⟩ | ⟨hc, hd⟩ | ⟨hc, hd⟩ | hc | hc | ⟨hc, hd⟩ | hc
        · have HV : Hid (okB k (byt s k) = false) := no_rs _ _ (by omega) (by omega) (by omega) (by omega)
          have p1 : decide (97 ≤ byt s k) = false := decide_eq_false (by omega)
          have p3 : decide (65 ≤ byt s k) = false := decide_eq_false (by omega)
          have p5 : decide (48 ≤ byt s k) = false := decide_eq_false (by omega)
          have p2 : decide (byt s k ≤ 122) = true := decide_eq_true (by omega)
          have p4 : decide (byt s k ≤ 90) = true := decide_eq_true (by omega)
          have p6 : decide (byt s k ≤ 57) = true := decide_eq_true (by omega)
          have q45 : (byt s k != 45) = true := bne_iff_ne.2 (by omega)
          have q95 : (byt s k != 95) = true := bne_iff_ne.2 (by omega)
          have q46 : (byt s k != 46) = true := bne_iff_ne.2 (by omega)
          go_wp2
          go_ret
          exact ⟨Tells.no (bad_at hlt HV.out), rfl⟩
        · have HV : Hid (okB k (byt s k) = true) := ok_rs _ _ HK.out (by omega)
          have c0 : 45 ≤ byt s k := by omega
          have c1 : byt s k ≤ 45 := by omega
          clear hc
          have p1 : decide (97 ≤ byt s k) = false := decide_eq_false (by omega)
          have p3 : decide (65 ≤ byt s k) = false := decide_eq_false (by omega)
          have p5 : decide (48 ≤ byt s k) = false := decide_eq_false (by omega)
          have p2 : decide (byt s k ≤ 122) = true := decide_eq_true (by omega)
          have p4 : decide (byt s k ≤ 90) = true := decide_eq_true (by omega)
          have p6 : decide (byt s k ≤ 57) = true := decide_eq_true (by omega)
          have q45 : (byt s k != 45) = false := bne_eq_false_iff_eq.2 (by omega)
          have q95 : (byt s k != 95) = true := bne_iff_ne.2 (by omega)
          have q46 : (byt s k != 46) = true := bne_iff_ne.2 (by omega)
          go_wp2
          go_round
          case rel => exact ⟨k + 1, by omega, by go_num, hok.step HV.out⟩
          case measure => simp [intOf]; omega
        · have HV : Hid (okB k (byt s k) = true) := ok_rs _ _ HK.out (by omega)
          have c0 : 46 ≤ byt s k := by omega
          have c1 : byt s k ≤ 46 := by omega
          clear hc
          have p1 : decide (97 ≤ byt s k) = false := decide_eq_false (by omega)
          have p3 : decide (65 ≤ byt s k) = false := decide_eq_false (by omega)
          have p5 : decide (48 ≤ byt s k) = false := decide_eq_false (by omega)
          have p2 : decide (byt s k ≤ 122) = true := decide_eq_true (by omega)
          have p4 : decide (byt s k ≤ 90) = true := decide_eq_true (by omega)
          have p6 : decide (byt s k ≤ 57) = true := decide_eq_true (by omega)
          have q45 : (byt s k != 45) = true := bne_iff_ne.2 (by omega)
          have q95 : (byt s k != 95) = true := bne_iff_ne.2 (by omega)
          have q46 : (byt s k != 46) = false := bne_eq_false_iff_eq.2 (by omega)
          go_wp2
          go_round
          case rel => exact ⟨k + 1, by omega, by go_num, hok.step HV.out⟩
          case measure => simp [intOf]; omega
        · have HV : Hid (okB k (byt s k) = false) := no_rs _ _ (by omega) (by omega) (by omega) (by omega)
          have c0 : 47 ≤ byt s k := by omega
          have c1 : byt s k ≤ 47 := by omega
          clear hc
          have p1 : decide (97 ≤ byt s k) = false := decide_eq_false (by omega)
          have p3 : decide (65 ≤ byt s k) = false := decide_eq_false (by omega)
          have p5 : decide (48 ≤ byt s k) = false := decide_eq_false (by omega)
          have p2 : decide (byt s k ≤ 122) = true := decide_eq_true (by omega)
          have p4 : decide (byt s k ≤ 90) = true := decide_eq_true (by omega)
          have p6 : decide (byt s k ≤ 57) = true := decide_eq_true (by omega)
          have q45 : (byt s k != 45) = true := bne_iff_ne.2 (by omega)
          have q95 : (byt s k != 95) = true := bne_iff_ne.2 (by omega)
          have q46 : (byt s k != 46) = true := bne_iff_ne.2 (by omega)
          go_wp2
          go_ret
          exact ⟨Tells.no (bad_at hlt HV.out), rfl⟩
        · have HV : Hid (okB k (byt s k) = true) := ok_al _ _ (by omega)
          have p1 : decide (97 ≤ byt s k) = false := decide_eq_false (by omega)
          have p3 : decide (65 ≤ byt s k) = false := decide_eq_false (by omega)
          have p5 : decide (48 ≤ byt s k) = true := decide_eq_true (by omega)
          have p2 : decide (byt s k ≤ 122) = true := decide_eq_true (by omega)
          have p4 : decide (byt s k ≤ 90) = true := decide_eq_true (by omega)
          have p6 : decide (byt s k ≤ 57) = true := decide_eq_true (by omega)
          have q45 : (byt s k != 45) = true := bne_iff_ne.2 (by omega)
          have q95 : (byt s k != 95) = true := bne_iff_ne.2 (by omega)
          have q46 : (byt s k != 46) = true := bne_iff_ne.2 (by omega)
          go_wp2
          go_round
          case rel => exact ⟨k + 1, by omega, by go_num, hok.step HV.out⟩
          case measure => simp [intOf]; omega
        · have HV : Hid (okB k (byt s k) = false) := no_rs _ _ (by omega) (by omega) (by omega) (by omega)
          have p1 : decide (97 ≤ byt s k) = false := decide_eq_false (by omega)
          have p3 : decide (65 ≤ byt s k) = false := decide_eq_false (by omega)
          have p5 : decide (48 ≤ byt s k) = true := decide_eq_true (by omega)
          have p2 : decide (byt s k ≤ 122) = true := decide_eq_true (by omega)
          have p4 : decide (byt s k ≤ 90) = true := decide_eq_true (by omega)
          have p6 : decide (byt s k ≤ 57) = false := decide_eq_false (by omega)
          have q45 : (byt s k != 45) = true := bne_iff_ne.2 (by omega)
          have q95 : (byt s k != 95) = true := bne_iff_ne.2 (by omega)
          have q46 : (byt s k != 46) = true := bne_iff_ne.2 (by omega)
          go_wp2
          go_ret
          exact ⟨Tells.no (bad_at hlt HV.out), rfl⟩
        · have HV : Hid (okB k (byt s k) = true) := ok_al _ _ (by omega)
          have p1 : decide (97 ≤ byt s k) = false := decide_eq_false (by omega)
          have p3 : decide (65 ≤ byt s k) = true := decide_eq_true (by omega)
          have p5 : decide (48 ≤ byt s k) = true := decide_eq_true (by omega)
          have p2 : decide (byt s k ≤ 122) = true := decide_eq_true (by omega)
          have p4 : decide (byt s k ≤ 90) = true := decide_eq_true (by omega)
          have p6 : decide (byt s k ≤ 57) = false := decide_eq_false (by omega)
          have q45 : (byt s k != 45) = true := bne_iff_ne.2 (by omega)
          have q95 : (byt s k != 95) = true := bne_iff_ne.2 (by omega)
          have q46 : (byt s k != 46) = true := bne_iff_ne.2 (by omega)
          go_wp2
          go_round
          case rel => exact ⟨k + 1, by omega, by go_num, hok.step HV.out⟩
          case measure => simp [intOf]; omega
        · have HV : Hid (okB k (byt s k) = false) := no_rs _ _ (by omega) (by omega) (by omega) (by omega)
          have p1 : decide (97 ≤ byt s k) = false := decide_eq_false (by omega)
          have p3 : decide (65 ≤ byt s k) = true := decide_eq_true (by omega)
          have p5 : decide (48 ≤ byt s k) = true := decide_eq_true (by omega)
          have p2 : decide (byt s k ≤ 122) = true := decide_eq_true (by omega)
          have p4 : decide (byt s k ≤ 90) = false := decide_eq_false (by omega)
          have p6 : decide (byt s k ≤ 57) = false := decide_eq_false (by omega)
          have q45 : (byt s k != 45) = true := bne_iff_ne.2 (by omega)
          have q95 : (byt s k != 95) = true := bne_iff_ne.2 (by omega)
          have q46 : (byt s k != 46) = true := bne_iff_ne.2 (by omega)
          go_wp2
          go_ret
          exact ⟨Tells.no (bad_at hlt HV.out), rfl⟩
        · have HV : Hid (okB k (byt s k) = true) := ok_rs _ _ HK.out (by omega)
          have c0 : 95 ≤ byt s k := by omega
          have c1 : byt s k ≤ 95 := by omega
          clear hc
          have p1 : decide (97 ≤ byt s k) = false := decide_eq_false (by omega)
          have p3 : decide (65 ≤ byt s k) = true := decide_eq_true (by omega)
          have p5 : decide (48 ≤ byt s k) = true := decide_eq_true (by omega)
          have p2 : decide (byt s k ≤ 122) = true := decide_eq_true (by omega)
          have p4 : decide (byt s k ≤ 90) = false := decide_eq_false (by omega)
          have p6 : decide (byt s k ≤ 57) = false := decide_eq_false (by omega)
          have q45 : (byt s k != 45) = true := bne_iff_ne.2 (by omega)
          have q95 : (byt s k != 95) = false := bne_eq_false_iff_eq.2 (by omega)
          have q46 : (byt s k != 46) = true := bne_iff_ne.2 (by omega)
          go_wp2
          go_round
          case rel => exact ⟨k + 1, by omega, by go_num, hok.step HV.out⟩
          case measure => simp [intOf]; omega
        · have HV : Hid (okB k (byt s k) = false) := no_rs _ _ (by omega) (by omega) (by omega) (by omega)
          have c0 : 96 ≤ byt s k := by omega
          have c1 : byt s k ≤ 96 := by omega
          clear hc
          have p1 : decide (97 ≤ byt s k) = false := decide_eq_false (by omega)
          have p3 : decide (65 ≤ byt s k) = true := decide_eq_true (by omega)
          have p5 : decide (48 ≤ byt s k) = true := decide_eq_true (by omega)
          have p2 : decide (byt s k ≤ 122) = true := decide_eq_true (by omega)
          have p4 : decide (byt s k ≤ 90) = false := decide_eq_false (by omega)
          have p6 : decide (byt s k ≤ 57) = false := decide_eq_false (by omega)
          have q45 : (byt s k != 45) = true := bne_iff_ne.2 (by omega)
          have q95 : (byt s k != 95) = true := bne_iff_ne.2 (by omega)
          have q46 : (byt s k != 46) = true := bne_iff_ne.2 (by omega)
          go_wp2
          go_ret
          exact ⟨Tells.no (bad_at hlt HV.out), rfl⟩
        · have HV : Hid (okB k (byt s k) = true) := ok_al _ _ (by omega)
          have p1 : decide (97 ≤ byt s k) = true := decide_eq_true (by omega)
          have p3 : decide (65 ≤ byt s k) = true := decide_eq_true (by omega)
          have p5 : decide (48 ≤ byt s k) = true := decide_eq_true (by omega)
          have p2 : decide (byt s k ≤ 122) = true := decide_eq_true (by omega)
          have p4 : decide (byt s k ≤ 90) = false := decide_eq_false (by omega)
          have p6 : decide (byt s k ≤ 57) = false := decide_eq_false (by omega)
          have q45 : (byt s k != 45) = true := bne_iff_ne.2 (by omega)
          have q95 : (byt s k != 95) = true := bne_iff_ne.2 (by omega)
          have q46 : (byt s k != 46) = true := bne_iff_ne.2 (by omega)
          go_wp2
          go_round
          case rel => exact ⟨k + 1, by omega, by go_num, hok.step HV.out⟩
          case measure => simp [intOf]; omega
        · have HV : Hid (okB k (byt s k) = false) := no_rs _ _ (by omega) (by omega) (by omega) (by omega)
          have p1 : decide (97 ≤ byt s k) = true := decide_eq_true (by omega)
          have p3 : decide (65 ≤ byt s k) = true := decide_eq_true (by omega)
          have p5 : decide (48 ≤ byt s k) = true := decide_eq_true (by omega)
          have p2 : decide (byt s k ≤ 122) = false := decide_eq_false (by omega)
          have p4 : decide (byt s k ≤ 90) = false := decide_eq_false (by omega)
          have p6 : decide (byt s k ≤ 57) = false := decide_eq_false (by omega)
          have q45 : (byt s k != 45) = true := bne_iff_ne.2 (by omega)
          have q95 : (byt s k != 95) = true := bne_iff_ne.2 (by omega)
          have q46 : (byt s k != 46) = true := bne_iff_ne.2 (by omega)
          go_wp2
          go_ret
          exact ⟨Tells.no (bad_at hlt HV.out), rfl⟩
    · go_wp2
      go_ret
      exact ⟨Tells.yes ⟨by omega, by omega, fun j hj => hok j (by omega)⟩, rfl⟩

/-! ### the callers of isName and inAlphabet -/
theorem Tells.bool {e : Ending} {p : Prop} {b : Bool} (h : Tells e p) (g : p ↔ b = true) : e = .returned (.bool b) := by
  obtain ⟨c, rfl, hc⟩ := h
  have : c = b := by rw [Bool.eq_iff_iff, hc, g]
  rw [this]
theorem inLead (c : Int) (h0 : 0 ≤ c) (h1 : c ≤ 255) (w : World) :
    Calls Try.prog 9 #[.string lead, .int .u8 c] w fun e w' => e = .returned (.bool (al c)) ∧ w' = w :=
  (inAlpha lead c w (by rw [lead_size]; unfold maxLen; omega)).mono fun e w' h => ⟨h.1.bool (lead_iff c h0 h1), h.2⟩
theorem inRest (c : Int) (h0 : 0 ≤ c) (h1 : c ≤ 255) (w : World) :
    Calls Try.prog 9 #[.string rest, .int .u8 c] w fun e w' => e = .returned (.bool (rs c)) ∧ w' = w :=
  (inAlpha rest c w (by rw [rest_size]; unfold maxLen; omega)).mono fun e w' h => ⟨h.1.bool (rest_iff c h0 h1), h.2⟩

set_option maxRecDepth 100000 in
set_option maxHeartbeats 800000 in
theorem gram (s : ByteArray) (w : World) (hs : s.size ≤ maxLen) :
    Calls Try.prog 7 #[.string s] w fun e w' => Tells e (Good s) ∧ w' = w := by
  unfold maxLen at hs
  have hg := get_byt s
  go_enter Try.func7, Try.ntmps7
  go_wp2
  go_loop [3, 4, 5] (fun st n i => ∃ k : Nat, k ≤ s.size ∧ k ≤ 63 ∧ i = .int .i64 k ∧ n = .int .i64 k ∧ st = .int .i64 (if k = 0 then 0 else 1) ∧ OkTo s k) (fun _ _ i => s.size - (intOf i).toNat)
  case atStart => exact ⟨0, Nat.zero_le _, by omega, rfl, rfl, rfl, fun j hj => absurd hj (by omega)⟩
  case round =>
    obtain ⟨k, hk, hk2, rfl, rfl, rfl, hok⟩ := hrel
    by_cases hlt : k < s.size
    · have b0 := byt_nonneg s k
      have b1 := byt_le s k
      by_cases hk0 : k = 0
      · rw [if_pos hk0]
        have HK : Hid (k = 0) := hk0
        have hk1 : k < 1 := by omega
        clear hk0
        by_cases hv : al (byt s k) = true
        · have HV : Hid (okB k (byt s k) = true) := by unfold okB; rw [if_pos HK.out]; exact hv
          go_wp2_with fail
          refine (inLead _ b0 b1 _).mono ?_
          rintro e w1 ⟨rfl, rfl⟩
          go_wp2_with fail
          go_round
          case rel => exact ⟨k + 1, by omega, by omega, by go_num, by go_num, rfl, hok.step HV.out⟩
          case measure => simp [intOf]; omega
        · have hv : al (byt s k) = false := by simpa using hv
          have HV : Hid (okB k (byt s k) = false) := by unfold okB; rw [if_pos HK.out]; exact hv
          go_wp2_with fail
          refine (inLead _ b0 b1 _).mono ?_
          rintro e w1 ⟨rfl, rfl⟩
          go_wp2_with fail
          go_ret
          exact ⟨Tells.no (bad_at hlt HV.out), rfl⟩
      · rw [if_neg hk0]
        have HK : Hid (k ≠ 0) := hk0
        clear hk0
        by_cases hv : rs (byt s k) = true
        · have HV : Hid (okB k (byt s k) = true) := by unfold okB; rw [if_neg HK.out]; exact hv
          by_cases hl : k < 63
          · go_wp2_with fail
            refine (inRest _ b0 b1 _).mono ?_
            rintro e w1 ⟨rfl, rfl⟩
            go_wp2_with fail
            go_round
            case rel => exact ⟨k + 1, by omega, by omega, by go_num, by go_num, rfl, hok.step HV.out⟩
            case measure => simp [intOf]; omega
          · go_wp2_with fail
            refine (inRest _ b0 b1 _).mono ?_
            rintro e w1 ⟨rfl, rfl⟩
            go_wp2_with fail
            go_ret
            exact ⟨Tells.no (fun h => absurd h.few (by omega)), rfl⟩
        · have hv : rs (byt s k) = false := by simpa using hv
          have HV : Hid (okB k (byt s k) = false) := by unfold okB; rw [if_neg HK.out]; exact hv
          go_wp2_with fail
          refine (inRest _ b0 b1 _).mono ?_
          rintro e w1 ⟨rfl, rfl⟩
          go_wp2_with fail
          go_ret
          exact ⟨Tells.no (bad_at hlt HV.out), rfl⟩
    · by_cases hk0 : k = 0
      · rw [if_pos hk0]
        have HK : Hid (k = 0) := hk0
        clear hk0
        go_wp2
        go_ret
        exact ⟨Tells.no (fun h => absurd HK.out (by have := h.some; omega)), rfl⟩
      · rw [if_neg hk0]
        have HK : Hid (k ≠ 0) := hk0
        clear hk0
        go_wp2
        go_ret
        exact ⟨Tells.yes ⟨by have := HK.out; omega, by omega, fun j hj => hok j (by omega)⟩, rfl⟩

theorem zzNm (s : ByteArray) (w : World) (hs : s.size ≤ maxLen) :
    Calls Try.prog 6 #[.string s] w fun e w' => Tells e (Good s) ∧ w' = w := by
  go_enter Try.func6, Try.ntmps6
  go_wp2_with fail
  refine (isNm s _ hs).mono ?_
  rintro e w1 ⟨⟨b, rfl, hb⟩, rfl⟩
  have H := hide hb
  clear hb
  go_wp2_with fail
  go_ret
  exact ⟨⟨b, rfl, H.out⟩, rfl⟩
theorem small5 (s : ByteArray) (w : World) (hs : s.size ≤ 1048576) :
    Calls Try.prog 5 #[.string s] w fun e w' => e = .returned (.bool true) ∧ w' = w := by
  go_enter Try.func5, Try.ntmps5
  go_wp2
  go_ret
  exact ⟨rfl, rfl⟩
theorem great5 (s : ByteArray) (w : World) (hs : 1048576 < s.size) :
    Calls Try.prog 5 #[.string s] w fun e w' => e = .returned (.bool false) ∧ w' = w := by
  go_enter Try.func5, Try.ntmps5
  go_wp2
  go_ret
  exact ⟨rfl, rfl⟩
theorem small8 (s : ByteArray) (w : World) (hs : s.size ≤ 1048576) :
    Calls Try.prog 8 #[.string s] w fun e w' => e = .returned (.bool true) ∧ w' = w := by
  go_enter Try.func8, Try.ntmps8
  go_wp2
  go_ret
  exact ⟨rfl, rfl⟩
theorem great8 (s : ByteArray) (w : World) (hs : 1048576 < s.size) :
    Calls Try.prog 8 #[.string s] w fun e w' => e = .returned (.bool false) ∧ w' = w := by
  go_enter Try.func8, Try.ntmps8
  go_wp2
  go_ret
  exact ⟨rfl, rfl⟩
end Go.Proofs.Qxb6605576a
