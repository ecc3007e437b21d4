import Derived.Test.Qxb6600803aWalkF
namespace Go.Proofs.Qxb6600803a
open Go.RowKit Tm
set_option linter.unusedVariables false
set_option linter.unusedSimpArgs false

/-- bytes, none of them c -/
def NS (c : Int) (l : List Int) : Prop := ∀ x ∈ l, 0 ≤ x ∧ x < 256 ∧ x ≠ c
theorem NS.append {c : Int} {a b : List Int} (h : NS c a) (k : NS c b) : NS c (a ++ b) := fun x hx => (List.mem_append.1 hx).elim (h x) (k x)
theorem NS.one {c d : Int} (h0 : 0 ≤ d) (h1 : d < 256) (h2 : d ≠ c) : NS c [d] := fun x hx => by simp at hx; subst hx; exact ⟨h0, h1, h2⟩
theorem NS_dgt {c : Int} (hc : c < 48 ∨ 57 < c) (k x : Nat) : NS c (dgt k x) := fun y hy => by have := dgt_dig k x y hy; omega
theorem NS.take {c : Int} {a : List Int} (h : NS c a) (k : Nat) : NS c (a.take k) := fun x hx => h x (List.mem_of_mem_take hx)

theorem son_val (l : List Int) (hl : ∀ x ∈ l, 0 ≤ x ∧ x < 256) (i : Nat) (h : i < (strOfNums l).size) : ((strOfNums l)[i].toNat : Int) = l[i]'(by rw [strOfNums_size] at h; exact h) := by
  rw [son_get, UInt8.toNat_ofNat']
  have := hl _ (List.getElem_mem (by rw [strOfNums_size] at h; exact h))
  omega
theorem ns_ne {c : Int} {a : List Int} (h : NS c a) (i : Nat) (hi : i < a.length) : ¬ a[i] = c := (h _ (List.getElem_mem hi)).2.2

theorem dropL {l1 l2 : List Int} {n : Nat} (h : l1.length = n) : (l1 ++ l2).drop n = l2 := by subst h; simp
theorem takeL {l1 l2 : List Int} {n : Nat} (h : l1.length = n) : (l1 ++ l2).take n = l1 := by subst h; simp
theorem fld1 (c : Int) (A : List Int) (hA : NS c A) (hs : A.length ≤ 1000) : FldC (strOfNums A) c (strOfNums A) ⟨#[]⟩ ⟨#[]⟩ 1 := fun w =>
  fields_any _ c 20000 20001 _ _ _ _ w (by rw [strOfNums_size]; omega) (by omega) (fun i hi => by
    rw [son_val A (fun x hx => ⟨(hA x hx).1, (hA x hx).2.1⟩) i hi]
    rw [strOfNums_size] at hi
    constructor
    · intro e; exact absurd e (ns_ne hA i hi)
    · intro e; omega) (.inl ⟨by rw [strOfNums_size]; omega, rfl, rfl, rfl, rfl⟩)
theorem at_sep {c : Int} {A B : List Int} (hA : NS c A) (i : Nat) (hi : i < (A ++ [c] ++ B).length) (hB : ∀ j (hj : j < B.length), A.length + 1 + j = i → ¬ B[j] = c) : (A ++ [c] ++ B)[i] = c ↔ i = A.length := by
  rw [List.append_assoc] at hi
  simp only [List.append_assoc]
  by_cases h1 : i < A.length
  · rw [List.getElem_append_left h1]
    exact ⟨fun e => absurd e (ns_ne hA i h1), fun e => by omega⟩
  · rw [List.getElem_append_right (by omega)]
    by_cases h2 : i = A.length
    · simp [h2]
    · have h3 : i - A.length = (i - A.length - 1) + 1 := by omega
      have h4 : i - A.length - 1 < B.length := by simp at hi; omega
      have : ([c] ++ B)[i - A.length]'(by simp; omega) = B[i - A.length - 1] := by
        simp only [List.singleton_append, List.getElem_cons]
        rw [dif_neg (by omega)]
      rw [this]
      exact ⟨fun e => absurd e (hB _ h4 (by omega)), fun e => absurd e h2⟩
theorem fld2 (c : Int) (hc0 : 0 ≤ c ∧ c < 256) (A B : List Int) (hA : NS c A) (hB : NS c B) (hs : A.length + B.length ≤ 1000) : FldC (strOfNums (A ++ [c] ++ B)) c (strOfNums A) (strOfNums B) ⟨#[]⟩ 2 := fun w => by
  have hall : ∀ x ∈ A ++ [c] ++ B, 0 ≤ x ∧ x < 256 := by
    intro x hx
    simp at hx
    rcases hx with h | h | h
    · exact ⟨(hA x h).1, (hA x h).2.1⟩
    · subst h; exact hc0
    · exact ⟨(hB x h).1, (hB x h).2.1⟩
  refine fields_any _ c A.length 20001 _ _ _ _ w (by rw [strOfNums_size]; simp; omega) (by omega) (fun i hi => ?_) (.inr (.inl ⟨by rw [strOfNums_size]; simp <;> omega, by rw [strOfNums_size]; simp <;> omega, ?_, ?_, rfl, rfl⟩))
  · rw [son_val _ hall i hi, at_sep hA i (by rw [strOfNums_size] at hi; exact hi) (fun j hj _ => ns_ne hB j hj)]
    rw [strOfNums_size] at hi
    simp at hi
    omega
  · rw [son_extract]; simp
  · rw [son_extract, strOfNums_size]
    congr 1
    rw [dropL (by simp), List.take_of_length_le (by simp; omega)]
theorem fld3 (c : Int) (hc0 : 0 ≤ c ∧ c < 256) (A B C : List Int) (hA : NS c A) (hB : NS c B) (hC : NS c C) (hs : A.length + B.length + C.length ≤ 1000) : FldC (strOfNums (A ++ [c] ++ B ++ [c] ++ C)) c (strOfNums A) (strOfNums B) (strOfNums C) 3 := fun w => by
  have hall : ∀ x ∈ A ++ [c] ++ B ++ [c] ++ C, 0 ≤ x ∧ x < 256 := by
    intro x hx
    simp at hx
    rcases hx with h | h | h | h | h
    · exact ⟨(hA x h).1, (hA x h).2.1⟩
    · subst h; exact hc0
    · exact ⟨(hB x h).1, (hB x h).2.1⟩
    · subst h; exact hc0
    · exact ⟨(hC x h).1, (hC x h).2.1⟩
  have eL : A ++ [c] ++ B ++ [c] ++ C = A ++ [c] ++ (B ++ [c] ++ C) := by simp
  refine fields_any _ c A.length (A.length + 1 + B.length) _ _ _ _ w (by rw [strOfNums_size]; simp; omega) (by omega) (fun i hi => ?_) (.inr (.inr ⟨by rw [strOfNums_size]; simp <;> omega, ?_, ?_, ?_, rfl⟩))
  · rw [son_val _ hall i hi]
    rw [strOfNums_size] at hi
    simp only [eL] at hi ⊢
    by_cases h1 : i = A.length + 1 + B.length
    · constructor
      · intro _; exact .inr h1
      · intro _
        have h2 : ((A ++ [c]) ++ (B ++ [c] ++ C))[i] = (B ++ [c] ++ C)[i - (A ++ [c]).length]'(by simp at hi ⊢; omega) := List.getElem_append_right (by simp; omega)
        rw [h2]
        have h3 : i - (A ++ [c]).length = B.length := by simp; omega
        simp only [h3]
        simp
    · rw [at_sep hA i hi (fun j hj e => by
        have h2 := at_sep (B := C) hB j hj (fun k hk _ => ns_ne hC k hk)
        intro h3
        have := h2.1 h3
        omega)]
      constructor
      · intro h; exact .inl h
      · intro h; rcases h with h | h
        · exact h
        · exact absurd h h1
  · rw [son_extract, eL]; simp
  · rw [son_extract]
    congr 1
    rw [eL, dropL (by simp), List.append_assoc, takeL (by omega)]
  · rw [son_extract, strOfNums_size]
    congr 1
    rw [dropL (by simp; omega), List.take_of_length_le (by simp; omega)]

theorem dig_dgt (k x : Nat) (z : Int) (hz : z = k) (hk : k ≤ 9) (hx : x < 10 ^ k) : DigC (strOfNums (dgt k x)) z x := fun w => by
  have := dig_any (dgt k x) k z w (dgt_length k x) hz hk (dgt_dig k x)
  rw [nv_dgt k x hx] at this
  exact this

theorem indexByte_at : ∀ (l : List UInt8) (c : UInt8) (k : Nat), l[k]? = some c → (∀ i, i < k → l[i]? ≠ some c) → Lib.indexByte l c = k := by
  intro l
  induction l with
  | nil => intro c k h; simp at h
  | cons b l ih =>
    intro c k h h2
    cases k with
    | zero => simp at h; simp [Lib.indexByte, h]
    | succ k =>
      have hb : ¬ b = c := by have := h2 0 (by omega); simpa using this
      have := ih c k (by simpa using h) (fun i hi => by have := h2 (i + 1) (by omega); simpa using this)
      rw [Lib.indexByte, this]
      simp [hb]
theorem indexByte_not : ∀ (l : List UInt8) (c : UInt8), (∀ b ∈ l, b ≠ c) → Lib.indexByte l c = -1 := by
  intro l
  induction l with
  | nil => intro c _; rfl
  | cons b l ih =>
    intro c h
    have hb : ¬ b = c := h b (by simp)
    rw [Lib.indexByte, ih c (fun x hx => h x (by simp [hx]))]
    simp [hb]
theorem u8_inj {a b : Int} (ha : 0 ≤ a ∧ a < 256) (hb : 0 ≤ b ∧ b < 256) (h : UInt8.ofNat a.toNat = UInt8.ofNat b.toNat) : a = b := by
  have := congrArg UInt8.toNat h
  rw [UInt8.toNat_ofNat', UInt8.toNat_ofNat'] at this
  omega
theorem ne_sep (c : UInt8) (l : List Int) (h : l.length ≠ 1) : ((⟨#[c]⟩ : ByteArray).toList == (strOfNums l).toList) = false := by
  rw [Lib.toList_data, Lib.toList_data]
  rw [beq_eq_false_iff_ne]
  intro e
  have := congrArg List.length e
  rw [strOfNums_data] at this
  simp at this
  omega
theorem cut_found (c : Int) (hc0 : 0 ≤ c ∧ c < 256) (A B : List Int) (hA : NS c A) (hlen : 0 < A.length) (hs : A.length + B.length ≤ 1000) : CutY (strOfNums (A ++ [c] ++ B)) ⟨#[UInt8.ofNat c.toNat]⟩ (strOfNums A) (strOfNums B) := fun w => by
  refine cut_yes _ _ _ _ A.length w rfl (ne_sep _ _ (by simp; omega)) ?_ (by rw [strOfNums_size]; simp; omega) (by rw [strOfNums_size]; simp <;> omega) ?_ ?_
  · apply indexByte_at
    · rw [strOfNums_data]
      simp
      rfl
    · intro i hi
      rw [strOfNums_data]
      simp only [List.append_assoc, List.getElem?_map]
      rw [List.getElem?_append_left hi, List.getElem?_eq_getElem hi]
      intro e
      have e1 : some (UInt8.ofNat (A[i].toNat)) = some (UInt8.ofNat c.toNat) := e
      have e2 : UInt8.ofNat (A[i].toNat) = UInt8.ofNat c.toNat := Option.some.inj e1
      exact ns_ne hA i hi (u8_inj ⟨(hA _ (List.getElem_mem hi)).1, (hA _ (List.getElem_mem hi)).2.1⟩ hc0 e2)
  · rw [son_extract]; simp
  · rw [son_extract, strOfNums_size]
    congr 1
    rw [dropL (by simp), List.take_of_length_le (by simp; omega)]
theorem cut_none (c : Int) (hc0 : 0 ≤ c ∧ c < 256) (A : List Int) (hA : NS c A) (hlen : 1 < A.length) : CutN (strOfNums A) ⟨#[UInt8.ofNat c.toNat]⟩ := fun w => by
  refine cut_no _ _ w rfl (ne_sep _ _ (by omega)) ?_
  apply indexByte_not
  intro b hb
  rw [strOfNums_data] at hb
  obtain ⟨x, hx, rfl⟩ := List.mem_map.1 hb
  intro e
  have e2 : UInt8.ofNat (x.toNat) = UInt8.ofNat c.toNat := e
  exact (hA x hx).2.2 (u8_inj ⟨(hA x hx).1, (hA x hx).2.1⟩ hc0 e2)

end Go.Proofs.Qxb6600803a
