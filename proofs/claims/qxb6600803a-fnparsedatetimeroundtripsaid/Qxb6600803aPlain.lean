/-
  PLAIN FUNCTIONS FOR SEAT b6600803a: numbers written in so many digits and read back. Nothing of the program here.
-/
namespace Go.Proofs.Qxb6600803a.Tm

/-- x in k digits, the greatest first -/
def dgt : Nat → Nat → List Int
  | 0, _ => []
  | k + 1, x => dgt k (x / 10) ++ [48 + (x : Int) % 10]
/-- digits read -/
def nv (l : List Int) : Int := l.foldl (fun v c => 10 * v + (c - 48)) 0
theorem nv_snoc (l : List Int) (c : Int) : nv (l ++ [c]) = 10 * nv l + (c - 48) := by simp [nv]
theorem dgt_length : ∀ k x, (dgt k x).length = k := by
  intro k
  induction k with
  | zero => intro x; rfl
  | succ k ih => intro x; rw [dgt, List.length_append, ih]; rfl
theorem dgt_dig : ∀ k x, ∀ c ∈ dgt k x, 48 ≤ c ∧ c ≤ 57 := by
  intro k
  induction k with
  | zero => intro x c h; simp [dgt] at h
  | succ k ih =>
    intro x c h
    rw [dgt] at h
    rcases List.mem_append.1 h with h | h
    · exact ih _ c h
    · simp at h; omega
theorem nv_dgt : ∀ k x, x < 10 ^ k → nv (dgt k x) = x := by
  intro k
  induction k with
  | zero => intro x h; simp [dgt, nv] at *; omega
  | succ k ih =>
    intro x h
    rw [dgt, nv_snoc, ih (x / 10) (by rw [Nat.pow_succ] at h; omega)]
    omega
theorem nv_bd : ∀ (l : List Int), (∀ c ∈ l, 48 ≤ c ∧ c ≤ 57) → 0 ≤ nv l ∧ nv l < 10 ^ l.length := by
  intro l
  suffices h : ∀ k, ∀ l : List Int, l.length = k → (∀ c ∈ l, 48 ≤ c ∧ c ≤ 57) → 0 ≤ nv l ∧ nv l < 10 ^ l.length from h _ l rfl
  intro k
  induction k with
  | zero => intro l hl _; have : l = [] := List.eq_nil_of_length_eq_zero hl; subst this; decide
  | succ k ih =>
    intro l hl hd
    have hne : l ≠ [] := by intro h; subst h; simp at hl
    obtain ⟨l', c, rfl⟩ : ∃ l' c, l = l' ++ [c] := ⟨l.dropLast, l.getLast hne, (List.dropLast_concat_getLast hne).symm⟩
    have h1 := ih l' (by simpa using hl) (fun x hx => hd x (by simp [hx]))
    have h2 := hd c (by simp)
    rw [nv_snoc, List.length_append, List.length_singleton, Int.pow_succ]
    omega

theorem nv_bd9 (l : List Int) (hd : ∀ c ∈ l, 48 ≤ c ∧ c ≤ 57) (hl : l.length ≤ 9) : 0 ≤ nv l ∧ nv l ≤ 1000000000 := by
  have h := nv_bd l hd
  have h2 : (10 : Nat) ^ l.length ≤ 10 ^ 9 := Nat.pow_le_pow_right (by decide) hl
  have h3 : (((10 : Nat) ^ l.length : Nat) : Int) = (10 : Int) ^ l.length := by simp
  have h4 : (10 : Nat) ^ 9 = 1000000000 := by decide
  omega

/-- a fraction, its last zeros left out: one digit at least stays -/
def trim (l : List Int) : Nat → Nat
  | 0 => 0
  | 1 => 1
  | n + 2 => if l.getD (n + 1) 0 = 48 then trim l (n + 1) else n + 2
theorem trim_le (l : List Int) : ∀ n, trim l n ≤ n := by
  intro n
  induction n with
  | zero => simp [trim]
  | succ n ih =>
    cases n with
    | zero => simp [trim]
    | succ n => rw [trim]; split <;> omega
theorem trim_pos (l : List Int) : ∀ n, 0 < n → 0 < trim l n := by
  intro n
  induction n with
  | zero => omega
  | succ n ih =>
    intro _
    cases n with
    | zero => simp [trim]
    | succ n => rw [trim]; split
                · exact ih (by omega)
                · omega
theorem trim_zero (l : List Int) : ∀ n, ∀ j, trim l n ≤ j → j < n → l.getD j 0 = 48 := by
  intro n
  induction n with
  | zero => intro j _ h; omega
  | succ n ih =>
    intro j h1 h2
    cases n with
    | zero => simp [trim] at h1; omega
    | succ n =>
      rw [trim] at h1
      split at h1
      · rename_i h
        by_cases hj : j = n + 1
        · rw [hj]; exact h
        · exact ih j h1 (by omega)
      · omega
/-- the zeros put back -/
theorem trim_back (l : List Int) (n : Nat) (hl : l.length = n) : (l.take (trim l n) ++ List.replicate n 48).take n = l := by
  apply List.ext_getElem?
  intro j
  have hle := trim_le l n
  by_cases hj : j < n
  · rw [List.getElem?_take_of_lt hj]
    by_cases h1 : j < trim l n
    · rw [List.getElem?_append_left (by simp; omega), List.getElem?_take_of_lt h1]
    · have hz := trim_zero l n j (by omega) hj
      rw [List.getElem?_append_right (by simp; omega)]
      have e1 : (l.take (trim l n)).length = trim l n := by simp; omega
      rw [e1, List.getElem?_replicate, if_pos (by omega), List.getElem?_eq_getElem (by omega)]
      rw [List.getD_eq_getElem?_getD, List.getElem?_eq_getElem (by omega)] at hz
      simp at hz
      rw [hz]
  · rw [List.getElem?_eq_none (by simp; omega), List.getElem?_eq_none (by omega)]

end Go.Proofs.Qxb6600803a.Tm
