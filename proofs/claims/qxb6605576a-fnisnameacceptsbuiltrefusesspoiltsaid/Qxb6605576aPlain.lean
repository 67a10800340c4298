namespace Go.Proofs.Qxb6605576a

/-- Byte k of a string, as a number (0 behind its end). -/
def byt (s : ByteArray) (k : Nat) : Int := if h : k < s.size then ((s[k]'h).toNat : Int) else 0
theorem get_byt (s : ByteArray) : ∀ (n : Nat) (h : n < s.size), ((s[n]'h).toNat : Int) = byt s n := fun n h => by unfold byt; rw [dif_pos h]
theorem byt_nonneg (s : ByteArray) (k : Nat) : 0 ≤ byt s k := by unfold byt; split <;> omega
theorem byt_le (s : ByteArray) (k : Nat) : byt s k ≤ 255 := by
  unfold byt; split
  · rename_i h
    have := (s[k]'h).toNat_lt
    omega
  · omega

/-- A letter or a digit. -/
def al (c : Int) : Bool := decide (97 ≤ c ∧ c ≤ 122) || decide (65 ≤ c ∧ c ≤ 90) || decide (48 ≤ c ∧ c ≤ 57)
/-- A letter, a digit, '-', '_' or '.'. -/
def rs (c : Int) : Bool := al c || decide (c = 45) || decide (c = 95) || decide (c = 46)
/-- May byte c stand at place k of a name? -/
def okB (k : Nat) (c : Int) : Bool := if k = 0 then al c else rs c
/-- A name. -/
structure Good (s : ByteArray) : Prop where
  some : 0 < s.size
  few : s.size ≤ 63
  ok : ∀ k, k < s.size → okB k (byt s k) = true

theorem al_yes (c : Int) (h : (97 ≤ c ∧ c ≤ 122) ∨ (65 ≤ c ∧ c ≤ 90) ∨ (48 ≤ c ∧ c ≤ 57)) : al c = true := by
  unfold al; rcases h with h | h | h <;> simp [h]
theorem al_no (c : Int) (h : ¬ ((97 ≤ c ∧ c ≤ 122) ∨ (65 ≤ c ∧ c ≤ 90) ∨ (48 ≤ c ∧ c ≤ 57))) : al c = false := by
  unfold al
  rw [decide_eq_false (fun g => h (Or.inl g)), decide_eq_false (fun g => h (Or.inr (Or.inl g))), decide_eq_false (fun g => h (Or.inr (Or.inr g)))]
  rfl
theorem rs_yes (c : Int) (h : al c = true ∨ c = 45 ∨ c = 95 ∨ c = 46) : rs c = true := by
  unfold rs; rcases h with h | h | h | h <;> simp [h]
theorem rs_no (c : Int) (h : al c = false) (h1 : c ≠ 45) (h2 : c ≠ 95) (h3 : c ≠ 46) : rs c = false := by
  unfold rs; simp [h, h1, h2, h3]
theorem ok_al (k : Nat) (c : Int) (h : (97 ≤ c ∧ c ≤ 122) ∨ (65 ≤ c ∧ c ≤ 90) ∨ (48 ≤ c ∧ c ≤ 57)) : okB k c = true := by
  unfold okB; split
  · exact al_yes c h
  · exact rs_yes c (Or.inl (al_yes c h))
theorem ok_rs (k : Nat) (c : Int) (hk : k ≠ 0) (h : c = 45 ∨ c = 95 ∨ c = 46) : okB k c = true := by
  unfold okB; rw [if_neg hk]; exact rs_yes c (Or.inr h)
theorem no_al (k : Nat) (c : Int) (hk : k = 0) (h : ¬ ((97 ≤ c ∧ c ≤ 122) ∨ (65 ≤ c ∧ c ≤ 90) ∨ (48 ≤ c ∧ c ≤ 57))) : okB k c = false := by
  unfold okB; rw [if_pos hk]; exact al_no c h
theorem no_rs (k : Nat) (c : Int) (h : ¬ ((97 ≤ c ∧ c ≤ 122) ∨ (65 ≤ c ∧ c ≤ 90) ∨ (48 ≤ c ∧ c ≤ 57))) (h1 : c ≠ 45) (h2 : c ≠ 95) (h3 : c ≠ 46) : okB k c = false := by
  unfold okB; split
  · exact al_no c h
  · exact rs_no c (al_no c h) h1 h2 h3

/-- The cases of a byte, as the Go text's tests part them. -/
theorem byte_cases (c : Int) (_h0 : 0 ≤ c) (_h1 : c ≤ 255) :
    c < 45 ∨ c = 45 ∨ c = 46 ∨ c = 47 ∨ (48 ≤ c ∧ c ≤ 57) ∨ (58 ≤ c ∧ c ≤ 64) ∨ (65 ≤ c ∧ c ≤ 90) ∨ (91 ≤ c ∧ c ≤ 94) ∨ c = 95 ∨ c = 96 ∨ (97 ≤ c ∧ c ≤ 122) ∨ 123 ≤ c := by omega

/-- The two alphabets, as the Go text spells them. -/
def lead : ByteArray := ⟨#[97, 98, 99, 100, 101, 102, 103, 104, 105, 106, 107, 108, 109, 110, 111, 112, 113, 114, 115, 116, 117, 118, 119, 120, 121, 122, 65, 66, 67, 68, 69, 70, 71, 72, 73, 74, 75, 76, 77, 78, 79, 80, 81, 82, 83, 84, 85, 86, 87, 88, 89, 90, 48, 49, 50, 51, 52, 53, 54, 55, 56, 57]⟩
def rest : ByteArray := ⟨#[97, 98, 99, 100, 101, 102, 103, 104, 105, 106, 107, 108, 109, 110, 111, 112, 113, 114, 115, 116, 117, 118, 119, 120, 121, 122, 65, 66, 67, 68, 69, 70, 71, 72, 73, 74, 75, 76, 77, 78, 79, 80, 81, 82, 83, 84, 85, 86, 87, 88, 89, 90, 48, 49, 50, 51, 52, 53, 54, 55, 56, 57, 45, 95, 46]⟩

theorem lead_size : lead.size = 62 := rfl
theorem rest_size : rest.size = 65 := rfl
set_option maxRecDepth 100000 in
theorem lead_in : ∀ j : Fin 62, al (byt lead j.val) = true := by decide +kernel
set_option maxRecDepth 100000 in
theorem rest_in : ∀ j : Fin 65, rs (byt rest j.val) = true := by decide +kernel
set_option maxRecDepth 100000 in
theorem lead_all : ∀ c : Fin 256, al (c.val : Int) = true → ∃ j : Fin 62, byt lead j.val = (c.val : Int) := by decide +kernel
set_option maxRecDepth 100000 in
theorem rest_all : ∀ c : Fin 256, rs (c.val : Int) = true → ∃ j : Fin 65, byt rest j.val = (c.val : Int) := by decide +kernel
theorem lead_iff (c : Int) (h0 : 0 ≤ c) (h1 : c ≤ 255) : (∃ j, j < lead.size ∧ byt lead j = c) ↔ al c = true := by
  rw [lead_size]
  constructor
  · rintro ⟨j, hj, rfl⟩
    exact lead_in ⟨j, hj⟩
  · intro h
    obtain ⟨c, rfl⟩ := Int.eq_ofNat_of_zero_le h0
    obtain ⟨j, hj⟩ := lead_all ⟨c, by omega⟩ h
    exact ⟨j.val, j.isLt, hj⟩
theorem rest_iff (c : Int) (h0 : 0 ≤ c) (h1 : c ≤ 255) : (∃ j, j < rest.size ∧ byt rest j = c) ↔ rs c = true := by
  rw [rest_size]
  constructor
  · rintro ⟨j, hj, rfl⟩
    exact rest_in ⟨j, hj⟩
  · intro h
    obtain ⟨c, rfl⟩ := Int.eq_ofNat_of_zero_le h0
    obtain ⟨j, hj⟩ := rest_all ⟨c, by omega⟩ h
    exact ⟨j.val, j.isLt, hj⟩

end Go.Proofs.Qxb6605576a
