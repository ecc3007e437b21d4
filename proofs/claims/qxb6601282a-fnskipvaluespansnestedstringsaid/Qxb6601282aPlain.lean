/-
  PLAIN FUNCTIONS FOR SEAT b6601282a: the scan for a value's end, over lists. A text is 't : Nat → Int' and 'n : Nat'; 'S t n i': its bytes from i on. Nothing of the program here.
-/
import Derived.Lib.BytesEntry
namespace Go.Proofs.Qxb6601282a.Sk

def S (t : Nat → Int) (n i : Nat) : List Int := (List.range' i (n - i)).map t
theorem S_cons {t : Nat → Int} {n i : Nat} (h : i < n) : S t n i = t i :: S t n (i + 1) := by
  unfold S
  have : n - i = (n - (i + 1)) + 1 := by omega
  rw [this, List.range'_succ]
  rfl
theorem S_nil {t : Nat → Int} {n i : Nat} (h : ¬ i < n) : S t n i = [] := by
  unfold S
  have : n - i = 0 := by omega
  rw [this]; rfl
theorem S_length (t : Nat → Int) (n i : Nat) : (S t n i).length = n - i := by simp [S]
theorem S_inj {t : Nat → Int} {n i j : Nat} (hi : i ≤ n) (hj : j ≤ n) (h : S t n i = S t n j) : i = j := by
  have := congrArg List.length h
  rw [S_length, S_length] at this
  omega
theorem S_drop (t : Nat → Int) (n i : Nat) : ∀ k, (S t n i).drop k = S t n (i + k) := by
  intro k
  induction k generalizing i with
  | zero => rfl
  | succ k ih =>
    by_cases h : i < n
    · rw [S_cons h, List.drop_succ_cons, ih, Nat.add_right_comm, Nat.add_assoc]
    · rw [S_nil h, S_nil (by omega)]; rfl
theorem S_take (t : Nat → Int) (n r : Nat) (hr : r ≤ n) : ∀ k i, r - i = k → i ≤ r → (S t n i).take (r - i) = S t r i := by
  intro k
  induction k with
  | zero => intro i h hi; rw [h, List.take_zero, S_nil (n := r) (by omega)]
  | succ k ih =>
    intro i h hi
    rw [S_cons (n := n) (by omega), S_cons (n := r) (by omega), show r - i = (r - (i + 1)) + 1 by omega, List.take_succ_cons, ih (i + 1) (by omega) (by omega)]

/-- comma, blank, tab, newline, carriage return -/
def isSep (c : Int) : Bool := c == 44 || c == 32 || c == 9 || c == 10 || c == 13
/-- the scan: d brackets are open; m = 0: outside strings, 1: inside, 2 and more: inside, behind a backslash. What is left of the text behind the value; none: it does not end -/
def gl : List Int → Nat → Nat → Option (List Int)
  | [], d, m => if m = 0 ∧ d = 0 then some [] else none
  | c :: r, d, 0 => if c = 34 then gl r d 1
      else if c = 123 ∨ c = 91 then gl r (d + 1) 0
      else if c = 125 ∨ c = 93 then (if d = 0 then some (c :: r) else if d = 1 then some r else gl r (d - 1) 0)
      else if isSep c then (if d = 0 then some (c :: r) else gl r d 0)
      else gl r d 0
  | c :: r, d, 1 => if c = 92 then gl r d 2 else if c = 34 then (if d = 0 then some r else gl r d 0) else gl r d 1
  | _ :: r, d, _ + 2 => gl r d 1
/-- a string behind its opening quote: 0, 1: behind a backslash -/
def ss : List Int → Nat → Option (List Int)
  | [], _ => none
  | c :: r, 0 => if c = 92 then ss r 1 else if c = 34 then some r else ss r 0
  | _ :: r, _ + 1 => ss r 0
/-- the string inside the scan -/
theorem gl_ss : ∀ (l : List Int) (d m : Nat), gl l d (m + 1) = (ss l m).bind fun r => if d = 0 then some r else gl r d 0 := by
  intro l
  induction l with
  | nil => intro d m; rw [gl, ss, if_neg (by omega)]; rfl
  | cons c r ih =>
    intro d m
    cases m with
    | zero =>
      show gl (c :: r) d 1 = _
      rw [gl, ss]
      split
      · exact ih d 1
      · split
        · rfl
        · exact ih d 0
    | succ m =>
      show gl (c :: r) d (m + 2) = _
      rw [gl, ss]
      exact ih d 0

section
variable {t : Nat → Int} {n j : Nat}
theorem ss_stop (h : ¬ j < n) (m : Nat) : ss (S t n j) m = none := by rw [S_nil h]; cases m <;> rw [ss]
theorem ss_back (h : j < n) (e : t j = 92) : ss (S t n j) 0 = ss (S t n (j + 1)) 1 := by rw [S_cons h, ss, if_pos e]
theorem ss_quote (h : j < n) (e : t j = 34) : ss (S t n j) 0 = some (S t n (j + 1)) := by rw [S_cons h, ss, if_neg (by omega), if_pos e]
theorem ss_plain (h : j < n) (e1 : ¬ t j = 92) (e2 : ¬ t j = 34) : ss (S t n j) 0 = ss (S t n (j + 1)) 0 := by rw [S_cons h, ss, if_neg e1, if_neg e2]
theorem ss_esc (h : j < n) : ss (S t n j) 1 = ss (S t n (j + 1)) 0 := by rw [S_cons h, ss]

/-- how many backslashes end just before q -/
def bk (t : Nat → Int) : Nat → Nat
  | 0 => 0
  | q + 1 => if t q = 92 then bk t q + 1 else 0
/-- from a place where no escape is open to the next quote -/
theorem ss_run (i : Nat) : ∀ k q, q = i + k → q ≤ n → bk t i % 2 = 0 → (∀ m, i ≤ m → m < q → ¬ t m = 34) → ss (S t n i) 0 = ss (S t n q) (bk t q % 2) := by
  intro k
  induction k with
  | zero => intro q hq hn h0 _; rw [hq, Nat.add_zero, h0]
  | succ k ih =>
    intro q hq hn h0 hno
    obtain ⟨q', rfl⟩ : ∃ q', q = q' + 1 := ⟨q - 1, by omega⟩
    rw [ih q' (by omega) (by omega) h0 (fun m h1 h2 => hno m h1 (by omega))]
    have hne := hno q' (by omega) (by omega)
    rw [bk]
    by_cases hb : t q' = 92
    · rw [if_pos hb]
      have h2 := Nat.mod_two_eq_zero_or_one (bk t q')
      rcases h2 with h2 | h2
      · rw [h2, ss_back (by omega) hb, show (bk t q' + 1) % 2 = 1 by omega]
      · rw [h2, ss_esc (by omega), show (bk t q' + 1) % 2 = 0 by omega]
    · rw [if_neg hb]
      have h2 := Nat.mod_two_eq_zero_or_one (bk t q')
      rcases h2 with h2 | h2
      · rw [h2, ss_plain (by omega) hb hne]
      · rw [h2, ss_esc (by omega)]
end

/-- the first place of c from j on -/
theorem first_at (t : Nat → Int) (c : Int) : ∀ d j e, e - j = d → j ≤ e → t e = c → ∃ q, j ≤ q ∧ q ≤ e ∧ t q = c ∧ ∀ m, j ≤ m → m < q → ¬ t m = c := by
  intro d
  induction d with
  | zero => intro j e h1 h2 h3; exact ⟨e, h2, Nat.le_refl _, h3, fun m h4 h5 => by omega⟩
  | succ d ih =>
    intro j e h1 h2 h3
    by_cases hj : t j = c
    · exact ⟨j, Nat.le_refl _, h2, hj, fun m h4 h5 => by omega⟩
    · obtain ⟨q, a, b, c', h⟩ := ih (j + 1) e (by omega) (by omega) h3
      refine ⟨q, by omega, b, c', fun m h4 h5 => ?_⟩
      by_cases hm : m = j
      · subst hm; exact hj
      · exact h m (by omega) h5
theorem byte_inj {a b : Int} (ha : 0 ≤ a ∧ a < 256) (hb : 0 ≤ b ∧ b < 256) (h : a.toNat.toUInt8 = b.toNat.toUInt8) : a = b := by
  have := congrArg UInt8.toNat h
  simp at this
  omega
theorem indexByte_at : ∀ (l : List UInt8) (c : UInt8) (k : Nat), l[k]? = some c → (∀ i, i < k → l[i]? ≠ some c) → Lib.indexByte l c = k := by
  intro l
  induction l with
  | nil => intro c k h; simp at h
  | cons b l ih =>
    intro c k h h2
    cases k with
    | zero => simp at h; simp [Lib.indexByte, h]
    | succ k =>
      have hb : ¬ b = c := by have := h2 0 (by omega); simpa using this
      have := ih c k (by simpa using h) (fun i hi => by have := h2 (i + 1) (by omega); simpa using this)
      rw [Lib.indexByte, this]
      simp [hb]
theorem indexByte_not : ∀ (l : List UInt8) (c : UInt8), (∀ b ∈ l, b ≠ c) → Lib.indexByte l c = -1 := by
  intro l
  induction l with
  | nil => intro c _; rfl
  | cons b l ih =>
    intro c h
    have hb : ¬ b = c := h b (by simp)
    rw [Lib.indexByte, ih c (fun x hx => h x (by simp [hx]))]
    simp [hb]
theorem getD_map (t : Nat → Int) (n i : Nat) (h : i < n) : ((List.range n).map t).getD i 0 = t i := by
  simp [List.getD_eq_getElem?_getD, h]
theorem indexByte_text (t : Nat → Int) (n k : Nat) (c : Int) (hk : k < n) (hr : ∀ i, i < n → 0 ≤ t i ∧ t i < 256) (hcr : 0 ≤ c ∧ c < 256) (ht : t k = c) (hno : ∀ i, i < k → ¬ t i = c) :
    Lib.indexByte (Lib.bytesOf ((List.range n).map t)) c.toNat.toUInt8 = k := by
  apply indexByte_at
  · simp [Lib.bytesOf, hk, ht]
  · intro i hi h
    simp [Lib.bytesOf, show i < n by omega] at h
    exact hno i hi (byte_inj (hr i (by omega)) hcr (by simpa using h))
theorem indexByte_text_none (t : Nat → Int) (n : Nat) (c : Int) (hr : ∀ i, i < n → 0 ≤ t i ∧ t i < 256) (hcr : 0 ≤ c ∧ c < 256) (hno : ∀ i, i < n → ¬ t i = c) :
    Lib.indexByte (Lib.bytesOf ((List.range n).map t)) c.toNat.toUInt8 = -1 := by
  apply indexByte_not
  intro b hb
  simp [Lib.bytesOf] at hb
  obtain ⟨i, hi, rfl⟩ := hb
  intro h
  exact hno i hi (byte_inj (hr i hi) hcr (by simpa using h))

/-- the answer at i -/
def ans (n i : Nat) : Option (List Int) → Nat
  | none => i
  | some r => n - r.length

/-- what the scan has read suffices it -/
theorem gl_cut : ∀ (l : List Int) (d m : Nat) (r : List Int), gl l d m = some r → ∃ a, l = a ++ r ∧ gl a d m = some [] := by
  intro l
  induction l with
  | nil =>
    intro d m r h
    have hh := h
    rw [gl] at hh
    split at hh
    · obtain rfl := Option.some.inj hh
      exact ⟨[], rfl, h⟩
    · simp at hh
  | cons c l ih =>
    intro d m r h
    have step : ∀ d' m', gl l d' m' = some r → (∀ X, gl (c :: X) d m = gl X d' m') → ∃ a, c :: l = a ++ r ∧ gl a d m = some [] := by
      intro d' m' h1 h2
      obtain ⟨a, e, ha⟩ := ih d' m' r h1
      exact ⟨c :: a, by rw [e]; rfl, by rw [h2, ha]⟩
    match m, h with
    | 0, h =>
      rw [gl] at h
      by_cases c1 : c = 34
      · rw [if_pos c1] at h; exact step _ _ h (fun X => by rw [gl, if_pos c1])
      · rw [if_neg c1] at h
        by_cases c2 : c = 123 ∨ c = 91
        · rw [if_pos c2] at h; exact step _ _ h (fun X => by rw [gl, if_neg c1, if_pos c2])
        · rw [if_neg c2] at h
          by_cases c3 : c = 125 ∨ c = 93
          · rw [if_pos c3] at h
            by_cases d0 : d = 0
            · rw [if_pos d0] at h
              obtain rfl := Option.some.inj h
              exact ⟨[], rfl, by rw [gl, if_pos ⟨rfl, d0⟩]⟩
            · rw [if_neg d0] at h
              by_cases d1 : d = 1
              · rw [if_pos d1] at h
                obtain rfl := Option.some.inj h
                exact ⟨[c], rfl, by rw [gl, if_neg c1, if_neg c2, if_pos c3, if_neg d0, if_pos d1]⟩
              · rw [if_neg d1] at h
                exact step _ _ h (fun X => by rw [gl, if_neg c1, if_neg c2, if_pos c3, if_neg d0, if_neg d1])
          · rw [if_neg c3] at h
            by_cases c4 : isSep c = true
            · rw [if_pos c4] at h
              by_cases d0 : d = 0
              · rw [if_pos d0] at h
                obtain rfl := Option.some.inj h
                exact ⟨[], rfl, by rw [gl, if_pos ⟨rfl, d0⟩]⟩
              · rw [if_neg d0] at h
                exact step _ _ h (fun X => by rw [gl, if_neg c1, if_neg c2, if_neg c3, if_pos c4, if_neg d0])
            · rw [if_neg c4] at h
              exact step _ _ h (fun X => by rw [gl, if_neg c1, if_neg c2, if_neg c3, if_neg c4])
    | 1, h =>
      rw [gl] at h
      by_cases c1 : c = 92
      · rw [if_pos c1] at h; exact step _ _ h (fun X => by rw [gl, if_pos c1])
      · rw [if_neg c1] at h
        by_cases c2 : c = 34
        · rw [if_pos c2] at h
          by_cases d0 : d = 0
          · rw [if_pos d0] at h
            obtain rfl := Option.some.inj h
            exact ⟨[c], rfl, by rw [gl, if_neg c1, if_pos c2, if_pos d0]⟩
          · rw [if_neg d0] at h
            exact step _ _ h (fun X => by rw [gl, if_neg c1, if_pos c2, if_neg d0])
        · rw [if_neg c2] at h
          exact step _ _ h (fun X => by rw [gl, if_neg c1, if_neg c2])
    | m + 2, h =>
      rw [gl] at h
      exact step _ _ h (fun X => by rw [gl])

/-- a text quoted -/
def qb : List Int → List Int
  | [] => []
  | c :: l => (if c = 34 ∨ c = 92 then [92, c] else [c]) ++ qb l
theorem gl_qb (d : Nat) (r : List Int) : ∀ l, gl (qb l ++ 34 :: r) d 1 = if d = 0 then some r else gl r d 0 := by
  intro l
  induction l with
  | nil => rw [qb, List.nil_append, gl, if_neg (by decide), if_pos rfl]
  | cons c l ih =>
    rw [qb, List.append_assoc]
    split
    · show gl (92 :: c :: (qb l ++ 34 :: r)) d 1 = _
      rw [gl, if_pos rfl, show (2 : Nat) = 0 + 2 from rfl, gl, ih]
    · rename_i h
      show gl (c :: (qb l ++ 34 :: r)) d 1 = _
      rw [gl, if_neg (by omega), if_neg (by omega), ih]
theorem gl_open (k : Nat) (r : List Int) : ∀ d, gl (List.replicate k 91 ++ r) d 0 = gl r (d + k) 0 := by
  induction k with
  | zero => intro d; rfl
  | succ k ih => intro d; rw [List.replicate_succ, List.cons_append, gl, if_neg (by decide), if_pos (by decide), ih, Nat.add_assoc, Nat.add_comm 1 k]
theorem gl_close (r : List Int) : ∀ k, 0 < k → gl (List.replicate k 93 ++ r) k 0 = some r := by
  intro k
  induction k with
  | zero => intro h; omega
  | succ k ih =>
    intro _
    rw [List.replicate_succ, List.cons_append, gl, if_neg (by decide), if_neg (by decide), if_pos (by decide), if_neg (by omega)]
    by_cases h : k = 0
    · subst h; rw [if_pos rfl]; rfl
    · rw [if_neg (by omega)]; exact ih (by omega)
/-- a quoted text inside d arrays -/
theorem gl_nested (d : Nat) (s r : List Int) : gl (List.replicate d 91 ++ (34 :: (qb s ++ 34 :: (List.replicate d 93 ++ r)))) 0 0 = some r := by
  rw [gl_open, gl, if_pos rfl, gl_qb, Nat.zero_add]
  by_cases h : d = 0
  · rw [if_pos h, h]; rfl
  · rw [if_neg h, gl_close r d (by omega)]

end Go.Proofs.Qxb6601282a.Sk
