import Derived.Test.Qxb6605576aCalls
import Derived.Laws.CopyOwn
import Derived.Laws.BytesString
import Derived.Deep.OwnRows
namespace Go.Proofs.Qxb6605576a
open Go.RowKit

/-- Numbers as cells of a []byte. -/
def bc (l : List Int) : Array Value := (l.map (Value.int .u8)).toArray
/-- Block g is a row of bytes, l, that may be written. -/
def Row (w : World) (g : Nat) (l : List Int) : Prop := w.heap[g]? = some (.cells (bc l) 5 (0, 0))
/-- Each number is a byte. -/
def InB (l : List Int) : Prop := ∀ v ∈ l, 0 ≤ v ∧ v ≤ 255

theorem addr_add (g j : Nat) : (⟨g, 0, none⟩ : Addr).add j = ⟨g, j, none⟩ := by
  unfold Addr.add
  split <;> simp_all

theorem Row.lt {w : World} {g : Nat} {l : List Int} (h : Row w g l) : g < w.heap.size := by
  unfold Row at h
  exact (Array.getElem?_eq_some_iff.1 h).1
theorem Row.cell {w : World} {g : Nat} {l : List Int} (h : Row w g l) (j : Nat) (hj : j < l.length) : w.cell? ⟨g, j, none⟩ = some (.int .u8 (l.getD j 0)) := by
  unfold Row at h
  simp [World.cell?, h, bc, hj]
theorem Row.free {w : World} {g : Nat} {l : List Int} (h : Row w g l) (j : Nat) : w.frozen? ⟨g, j, none⟩ = false := by
  unfold Row at h
  simp [World.frozen?, h]
theorem Row.set {w : World} {g : Nat} {l : List Int} (h : Row w g l) (j : Nat) (v : Int) : Row (w.setCell ⟨g, j, none⟩ (.int .u8 v)) g (l.set j v) := by
  unfold Row at h ⊢
  have hl := (Array.getElem?_eq_some_iff.1 h).1
  simp only [World.setCell, Array.getElem?_modify, if_true, h, Option.map_some]
  simp [bc, List.map_set]
theorem Row.other {w : World} {g : Nat} {l : List Int} (h : Row w g l) {a : Addr} (ha : a.block ≠ g) (v : Value) : Row (w.setCell a v) g l := by
  unfold Row at h ⊢
  rw [Below.heap_setCell _ _ _ _ (fun e => ha e.symm)]
  exact h
theorem Row.below {w w' : World} {g B : Nat} {l : List Int} (h : Row w g l) (hb : Below B w w') (hg : g < B) : Row w' g l := by
  unfold Row at h ⊢
  rw [hb.block g hg]
  exact h

theorem InB.set {l : List Int} (h : InB l) (j : Nat) (v : Int) (h0 : 0 ≤ v) (h1 : v ≤ 255) : InB (l.set j v) := by
  intro u hu
  rcases List.mem_or_eq_of_mem_set hu with g | g
  · exact h u g
  · rw [g]; exact ⟨h0, h1⟩
theorem InB.zeros (n : Nat) : InB (List.replicate n 0) := by
  intro u hu
  rw [List.eq_of_mem_replicate hu]; omega
theorem InB.append {l r : List Int} (h : InB l) (k : InB r) : InB (l ++ r) := by
  intro u hu
  rcases List.mem_append.1 hu with g | g
  · exact h u g
  · exact k u g
theorem InB.drop {l : List Int} (h : InB l) (n : Nat) : InB (l.drop n) := fun u hu => h u (List.mem_of_mem_drop hu)

/-- The string of a list of bytes. -/
def strOf (l : List Int) : ByteArray := l.foldl (fun r n => r.push (UInt8.ofNat n.toNat)) ByteArray.empty
theorem foldl_push (l : List Int) : ∀ s : ByteArray, (l.foldl (fun r n => r.push (UInt8.ofNat n.toNat)) s).data.toList = s.data.toList ++ l.map (fun n => UInt8.ofNat n.toNat) := by
  induction l with
  | nil => intro s; simp
  | cons n l ih =>
    intro s
    rw [List.foldl_cons, ih]
    simp [ByteArray.push]
theorem strOf_list (l : List Int) : (strOf l).data.toList = l.map (fun n => UInt8.ofNat n.toNat) := by
  unfold strOf; rw [foldl_push]; rfl
theorem strOf_size (l : List Int) : (strOf l).size = l.length := by
  have h := congrArg List.length (strOf_list l)
  simpa using h
theorem strOf_byt (l : List Int) (h : InB l) (j : Nat) (hj : j < l.length) : byt (strOf l) j = l.getD j 0 := by
  have hs : j < (strOf l).size := by rw [strOf_size]; exact hj
  unfold byt
  rw [dif_pos hs]
  have e : (strOf l)[j] = (strOf l).data.toList[j]'(by simpa using hs) := rfl
  have h2 := h (l[j]) (List.getElem_mem hj)
  rw [e]
  simp only [strOf_list, List.getElem_map]
  rw [List.getD_eq_getElem?_getD, List.getElem?_eq_getElem hj, Option.getD_some, UInt8.toNat_ofNat_of_lt' (by show _ < 256; omega)]
  omega

/-- The new block's first cell. -/
theorem Row.cell0 {w : World} {g M : Nat} (h : Row w g (List.replicate M 0)) (hM : 1 ≤ M) : w.cell? ⟨g, 0, none⟩ = some (.int .u8 0) := by
  rw [h.cell 0 (by simp; omega), List.getD_eq_getElem?_getD, List.getElem?_replicate]
  split <;> rfl

/-- The two alphabets' bytes, in the walk's own spelling. -/
theorem get_lead : ∀ (n : Nat) (h : n < (⟨#[97, 98, 99, 100, 101, 102, 103, 104, 105, 106, 107, 108, 109, 110, 111, 112, 113, 114, 115, 116, 117, 118, 119, 120, 121, 122, 65, 66, 67, 68, 69, 70, 71, 72, 73, 74, 75, 76, 77, 78, 79, 80, 81, 82, 83, 84, 85, 86, 87, 88, 89, 90, 48, 49, 50, 51, 52, 53, 54, 55, 56, 57]⟩ : ByteArray).size), ((((⟨#[97, 98, 99, 100, 101, 102, 103, 104, 105, 106, 107, 108, 109, 110, 111, 112, 113, 114, 115, 116, 117, 118, 119, 120, 121, 122, 65, 66, 67, 68, 69, 70, 71, 72, 73, 74, 75, 76, 77, 78, 79, 80, 81, 82, 83, 84, 85, 86, 87, 88, 89, 90, 48, 49, 50, 51, 52, 53, 54, 55, 56, 57]⟩ : ByteArray)[n]'h).toNat : Nat) : Int) = byt lead n := get_byt lead
theorem get_rest : ∀ (n : Nat) (h : n < (⟨#[97, 98, 99, 100, 101, 102, 103, 104, 105, 106, 107, 108, 109, 110, 111, 112, 113, 114, 115, 116, 117, 118, 119, 120, 121, 122, 65, 66, 67, 68, 69, 70, 71, 72, 73, 74, 75, 76, 77, 78, 79, 80, 81, 82, 83, 84, 85, 86, 87, 88, 89, 90, 48, 49, 50, 51, 52, 53, 54, 55, 56, 57, 45, 95, 46]⟩ : ByteArray).size), ((((⟨#[97, 98, 99, 100, 101, 102, 103, 104, 105, 106, 107, 108, 109, 110, 111, 112, 113, 114, 115, 116, 117, 118, 119, 120, 121, 122, 65, 66, 67, 68, 69, 70, 71, 72, 73, 74, 75, 76, 77, 78, 79, 80, 81, 82, 83, 84, 85, 86, 87, 88, 89, 90, 48, 49, 50, 51, 52, 53, 54, 55, 56, 57, 45, 95, 46]⟩ : ByteArray)[n]'h).toNat : Nat) : Int) = byt rest n := get_byt rest

/-- The name that is built: its first k bytes may stand where they stand. -/
structure Tok (wr w : World) (g M k : Nat) (L : List Int) : Prop where
  row : Row wr g L
  len : L.length = M
  inb : InB L
  ok : ∀ j, j < k → okB j (L.getD j 0) = true
  bel : Below g w wr

theorem getD_set (L : List Int) (k j : Nat) (v : Int) (hk : k < L.length) : (L.set k v).getD j 0 = if j = k then v else L.getD j 0 := by
  rw [List.getD_eq_getElem?_getD, List.getElem?_set]
  by_cases h : k = j
  · subst h; simp [hk]
  · rw [if_neg h, if_neg (fun e => h e.symm), List.getD_eq_getElem?_getD]
theorem Tok.start {w w1 : World} {g M : Nat} (hR : Row w1 g (List.replicate M 0)) (hB : Below g w w1) (hM : 1 ≤ M) (v : Int) (hv : al v = true) (h0 : 0 ≤ v) (h1 : v ≤ 255) :
    Tok (w1.setCell ⟨g, 0, none⟩ (.int .u8 v)) w g M 1 ((List.replicate M 0).set 0 v) := by
  refine ⟨hR.set 0 v, by simp, (InB.zeros M).set 0 v h0 h1, ?_, hB.setCell (Nat.le_refl _) _⟩
  intro j hj
  obtain rfl : j = 0 := by omega
  rw [getD_set _ _ _ _ (by simp; omega), if_pos rfl]
  exact hv
theorem Tok.step {w wr : World} {g M k : Nat} {L : List Int} (h : Tok wr w g M k L) (hk : 1 ≤ k) (hkM : k < M) (v : Int) (hv : rs v = true) (h0 : 0 ≤ v) (h1 : v ≤ 255) :
    Tok (wr.setCell ⟨g, k, none⟩ (.int .u8 v)) w g M (k + 1) (L.set k v) := by
  refine ⟨h.row.set k v, by rw [List.length_set]; exact h.len, h.inb.set k v h0 h1, ?_, h.bel.setCell (Nat.le_refl _) _⟩
  intro j hj
  rw [getD_set _ _ _ _ (by rw [h.len]; exact hkM)]
  by_cases e : j = k
  · rw [if_pos e, e]
    unfold okB; rw [if_neg (by omega)]; exact hv
  · rw [if_neg e]; exact h.ok j (by omega)
theorem lead_at (F : Int) (_h : 0 ≤ F) : al (byt lead (F % 62).toNat) = true := lead_in ⟨(F % 62).toNat, by omega⟩
theorem rest_at (F : Int) (_h : 0 ≤ F) : rs (byt rest (F % 65).toNat) = true := rest_in ⟨(F % 65).toNat, by omega⟩

theorem Tok.good {w wr : World} {g M k : Nat} {L : List Int} (h : Tok wr w g M k L) (hk : M ≤ k) (h1 : 1 ≤ M) (h2 : M ≤ 63) : Good (strOf L) := by
  have hs : (strOf L).size = M := by rw [strOf_size]; exact h.len
  refine ⟨by omega, by omega, ?_⟩
  intro j hj
  rw [strOf_byt L h.inb j (by rw [h.len]; omega)]
  exact h.ok j (by omega)
/-- A string that is too long is no name. -/
theorem long_bad (L : List Int) (h : L.length = 64) : ¬ Good (strOf L) := by
  intro g
  have := g.few
  rw [strOf_size, h] at this
  omega
/-- One byte that may not stand where it stands: no name. -/
theorem set_bad (L : List Int) (hL : InB L) (j : Nat) (hj : j < L.length) (v : Int) (h0 : 0 ≤ v) (h1 : v ≤ 255) (hv : okB j v = false) : ¬ Good (strOf (L.set j v)) := by
  refine bad_at (k := j) (by rw [strOf_size, List.length_set]; exact hj) ?_
  rw [strOf_byt _ (hL.set j v h0 h1) j (by rw [List.length_set]; exact hj), getD_set _ _ _ _ hj, if_pos rfl]
  exact hv
set_option maxRecDepth 100000 in
theorem rest_tail : ∀ j : Fin 3, al (byt rest (62 + j.val)) = false := by decide +kernel
theorem tail_bad (F : Int) (_h : 0 ≤ F) : okB 0 (byt rest (62 + F % 3).toNat) = false := by
  have e : (62 + F % 3).toNat = 62 + (F % 3).toNat := by omega
  rw [e]
  exact rest_tail ⟨(F % 3).toNat, by omega⟩
theorem rs_bad (k : Nat) (c : Int) (h : rs c = false) : okB k c = false := by
  unfold okB; split
  · unfold rs at h
    revert h
    cases al c <;> simp
  · exact h
theorem slash_bad : rs 47 = false := by decide
/-- The whole of a name, copied over as many zeros. -/
theorem copied (L : List Int) (M : Nat) (_h : L.length = M) : L ++ (List.replicate M 0).drop M = L := by simp

theorem info5 : (Try.prog.info? 5).map (fun i => (i.zero, i.size, i.bytes)) = some (some (.int .u8 0), 1, 1) := by kernel_rfl
theorem size5 : (Try.prog.info? 5).map (·.size) = some 1 := by kernel_rfl

/-- 'make([]byte, n)'. -/
theorem wp_make {w : World} {ops : Array Oper} {rest : List Oper} {o : Oper} {a : Act} {Q : Exit → Act → World → Prop} (n : Nat)
    (hg : o.guard = none) (l c : Operand) (hop : o.op = Op.makeSlice 23 l c) (kl kc : IntKind) (hl : a.eval l = .int kl (n : Int)) (hc : a.eval c = .int kc (n : Int)) (hn : n ≤ 1000)
    (hK : ∀ w', Row w' w.heap.size (List.replicate n 0) → Below w.heap.size w w' → wpList Try.prog ops Q rest (a.put o.dst (.slice (some ⟨w.heap.size, 0, none⟩) n n)) w') :
    wpList Try.prog ops Q (o :: rest) a w := by
  refine wpList_plain hg fun K hK' => ?_
  have hrun := run_make_row' (P := Try.prog) 23 5 (.int .u8 0) 1 Try.underlying23 info5 rfl kl kc n (by omega) (by omega) w
  unfold Oper.wp
  simp [execOp, hop, hl, hc, hrun, Result.andThen]
  refine hK' _ _ (hK _ ?_ ?_)
  · unfold Row
    have e : madeCells #[Value.int .u8 0] n = bc (List.replicate n 0) := by
      apply Array.toList_inj.1
      rw [toList_madeCells_one]
      simp [bc]
    rw [e]
    show (w.heap.push _)[w.heap.size]? = _
    simp
  · exact (Below.refl _ _).alloc (Nat.le_refl _) _

/-- 'copy(d, s)', the whole of s, two rows of the call's own. -/
theorem wp_copy {w : World} {ops : Array Oper} {rest : List Oper} {o : Oper} {a : Act} {Q : Exit → Act → World → Prop}
    (hgd : o.guard = none) (d s : Operand) (ho : o.op = .call { callee := .builtin .copy, args := #[d, s], argTypes := #[23, 23] })
    (g h n m dc sc : Nat) (D L : List Int) (hd : a.eval d = .slice (some ⟨g, 0, none⟩) n dc) (hs : a.eval s = .slice (some ⟨h, 0, none⟩) m sc)
    (hD : Row w g D) (hL : Row w h L) (hnD : D.length = n) (hmL : L.length = m) (hmn : m ≤ n) 
    (hK : ∀ w', Row w' g (L ++ D.drop m) → Below g w w' → wpList Try.prog ops Q rest (a.put o.dst (goInt m)) w') :
    wpList Try.prog ops Q (o :: rest) a w := by
  refine wpList_copy_splice hgd d s 23 23 ho 5 Try.underlying23 size5 (some ⟨g, 0, none⟩) (some ⟨h, 0, none⟩) n dc m sc hd hs g 0 (D.map (Value.int .u8)) 5 hD (L.map (Value.int .u8)) ?_ ?_ ?_ ?_ g w (Below.refl _ _) (Nat.le_refl _) ?_
  · simp [hmL, Nat.min_eq_left hmn]
  · intro _
    refine ⟨rfl, _, rfl, ?_⟩
    intro j v hj
    have hj' : j < L.length := by
      have := (List.getElem?_eq_some_iff.1 hj).1
      simpa using this
    have := hL.cell j hj'
    rw [addr_add, this]
    rw [List.getElem?_map, List.getElem?_eq_getElem hj'] at hj
    simp [hj'] at hj ⊢
    exact hj
  · simp; omega
  · intro v hv
    obtain ⟨n, _, rfl⟩ := List.mem_map.1 hv
    rfl
  · intro w' hw hb
    have hw := hw.out
    have e : (goInt (List.length (L.map (Value.int .u8)))) = goInt m := by simp [hmL]
    rw [e]
    refine hK w' ?_ hb
    unfold Row bc
    rw [hw]
    simp [splice, hmL]

/-- 'string(b)', b a row of the call's own, whole. -/
theorem wp_str {w : World} {ops : Array Oper} {rest : List Oper} {o : Oper} {a : Act} {Q : Exit → Act → World → Prop}
    (hgd : o.guard = none) (x : Operand) (ho : o.op = .convert 23 9 x) (g n c : Nat) (L : List Int) (hx : a.eval x = .slice (some ⟨g, 0, none⟩) n c)
    (hL : Row w g L) (hn : L.length = n) (hK : wpList Try.prog ops Q rest (a.put o.dst (.string (strOf L))) w) :
    wpList Try.prog ops Q (o :: rest) a w := by
  refine wpList_plain hgd fun K hK' => ?_
  have hl := run_loadCells_list (P := Try.prog) w ⟨g, 0, none⟩ (L.map (Value.int .u8)) (fun j v hj => by
    have hj' : j < L.length := by
      have := (List.getElem?_eq_some_iff.1 hj).1
      simpa using this
    have := hL.cell j hj'
    rw [addr_add, this]
    rw [List.getElem?_map, List.getElem?_eq_getElem hj'] at hj
    simp [hj'] at hj ⊢
    exact hj)
  rw [List.length_map, hn] at hl
  have hrun := run_convert_bytes_string (P := Try.prog) w 23 9 5 (some ⟨g, 0, none⟩) n c Try.underlying23 Try.underlying5 Try.underlying9
  rw [run_bytesToString w ⟨g, 0, none⟩ n c L hl] at hrun
  unfold Oper.wp
  simp [execOp, ho, hx, hrun, Result.andThen]
  exact hK' _ _ hK

end Go.Proofs.Qxb6605576a
