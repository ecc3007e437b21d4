/-
  PLAIN FUNCTIONS FOR SEAT b6600283a: a text is 't : Nat → Int' (its bytes) and 'n : Nat' (its length); 'S t n i' is the list of its bytes from i on. The parser, over lists. Nothing of the program here.
-/
namespace Go.Proofs.Qxb6600283a.Js

def isDg (c : Int) : Bool := decide (48 ≤ c ∧ c ≤ 57)
def isHx (c : Int) : Bool := isDg c || decide (97 ≤ c ∧ c ≤ 102) || decide (65 ≤ c ∧ c ≤ 70)
def isSp (c : Int) : Bool := c == 32 || c == 9 || c == 10 || c == 13
def isDl (c : Int) : Bool := c == 32 || c == 9 || c == 10 || c == 13 || c == 44 || c == 93 || c == 125
/-- what may stand behind a backslash, but for u -/
def isEs (c : Int) : Bool := c == 34 || c == 92 || c == 47 || c == 98 || c == 102 || c == 110 || c == 114 || c == 116

/-- the bytes from i on -/
def S (t : Nat → Int) (n i : Nat) : List Int := (List.range' i (n - i)).map t

theorem S_cons {t : Nat → Int} {n i : Nat} (h : i < n) : S t n i = t i :: S t n (i + 1) := by
  unfold S
  have : n - i = (n - (i + 1)) + 1 := by omega
  rw [this, List.range'_succ]
  rfl
theorem S_nil {t : Nat → Int} {n i : Nat} (h : ¬ i < n) : S t n i = [] := by
  unfold S
  have : n - i = 0 := by omega
  rw [this]; rfl
theorem S_length (t : Nat → Int) (n i : Nat) : (S t n i).length = n - i := by simp [S]
theorem S_inj {t : Nat → Int} {n i j : Nat} (hi : i ≤ n) (hj : j ≤ n) (h : S t n i = S t n j) : i = j := by
  have := congrArg List.length h
  rw [S_length, S_length] at this
  omega
theorem S_drop (t : Nat → Int) (n i : Nat) : ∀ k, (S t n i).drop k = S t n (i + k) := by
  intro k
  induction k generalizing i with
  | zero => rfl
  | succ k ih =>
    by_cases h : i < n
    · rw [S_cons h, List.drop_succ_cons, ih, Nat.add_right_comm, Nat.add_assoc]
    · rw [S_nil h, S_nil (by omega)]; rfl

/-- digits: one at least, then as many as there are -/
def dgs : List Int → Option (List Int)
  | [] => none
  | c :: r => if isDg c then some (r.dropWhile isDg) else none
def pw : List Int → List Int → Option (List Int)
  | [], l => some l
  | _ :: _, [] => none
  | c :: w, x :: l => if x = c then pw w l else none
def pm : List Int → List Int
  | [] => []
  | c :: r => if c = 45 then r else c :: r
def pint : List Int → Option (List Int)
  | [] => none
  | c :: r => if c = 48 then some r else dgs (c :: r)
def pf : List Int → Option (List Int)
  | [] => some []
  | c :: r => if c = 46 then dgs r else some (c :: r)
def sgn : List Int → List Int
  | [] => []
  | c :: r => if c = 43 ∨ c = 45 then r else c :: r
def pe : List Int → Option (List Int)
  | [] => some []
  | c :: r => if c = 101 ∨ c = 69 then dgs (sgn r) else some (c :: r)
/-- a number -/
def pn (l : List Int) : Option (List Int) := (pint (pm l)).bind fun l1 => (pf l1).bind pe
/-- a string, behind its opening quote: 0: plain; 1: behind a backslash; 2 to 5: before the first to the fourth digit of a \u -/
def ps : List Int → Nat → Option (List Int)
  | [], _ => none
  | c :: r, 0 => if c = 34 then some r else if c < 32 then none else if c = 92 then ps r 1 else ps r 0
  | c :: r, 1 => if isEs c then ps r 0 else if c = 117 then ps r 2 else none
  | c :: r, m + 2 => if isHx c then ps r (if m = 3 then 0 else m + 3) else none
def sp (l : List Int) : List Int := l.dropWhile isSp
/-- 'k' of a list's head and tail -/
def un (l : List Int) (k : Int → List Int → Option (List Int)) : Option (List Int) := match l with
  | [] => none
  | c :: r => k c r
/-- 0: a value; 1: the elements of an array, from the first on; 2: the members of an object, from the first on -/
def P : Nat → Nat → List Int → Option (List Int)
  | 0, _, _ => none
  | f + 1, 0, l => un l fun c r =>
      if c = 34 then ps r 0
      else if c = 91 then un (sp r) fun x r' => if x = 93 then some r' else P f 1 (sp r)
      else if c = 123 then un (sp r) fun x r' => if x = 125 then some r' else P f 2 (sp r)
      else if c = 116 then pw [116, 114, 117, 101] l
      else if c = 102 then pw [102, 97, 108, 115, 101] l
      else if c = 110 then pw [110, 117, 108, 108] l
      else pn l
  | f + 1, 1, l => (P f 0 l).bind fun r => un (sp r) fun x r' => if x = 93 then some r' else if x = 44 then P f 1 (sp r') else none
  | f + 1, _ + 2, l => un l fun c r => if c = 34 then (ps r 0).bind fun r1 => un (sp r1) fun x r2 => if x = 58 then (P f 0 (sp r2)).bind fun r3 => un (sp r3) fun y r4 => if y = 125 then some r4 else if y = 44 then P f 2 (sp r4) else none
      else none
      else none

/-- what a call of the parser at i hands back: -1, or the place behind what was read -/
def Res (t : Nat → Int) (n i : Nat) (o : Option (List Int)) (x : Int) : Prop := (o = none ∧ x = -1) ∨ ∃ j : Nat, o = some (S t n j) ∧ i < j ∧ j ≤ n ∧ x = j

theorem dropWhile_stop {p : Int → Bool} {t : Nat → Int} {n k : Nat} (h : ¬ k < n) : (S t n k).dropWhile p = S t n k := by rw [S_nil h]; rfl
theorem dropWhile_no {p : Int → Bool} {t : Nat → Int} {n k : Nat} (h : k < n) (hp : p (t k) = false) : (S t n k).dropWhile p = S t n k := by
  rw [S_cons h, List.dropWhile_cons]; simp [hp]
theorem dropWhile_yes {p : Int → Bool} {t : Nat → Int} {n k : Nat} (h : k < n) (hp : p (t k) = true) : (S t n k).dropWhile p = (S t n (k + 1)).dropWhile p := by
  rw [S_cons h, List.dropWhile_cons]; simp [hp]
/-- where a run ends -/
theorem dropWhile_S {p : Int → Bool} (t : Nat → Int) (n : Nat) : ∀ m i, n - i = m → i ≤ n → ∃ j, i ≤ j ∧ j ≤ n ∧ (S t n i).dropWhile p = S t n j := by
  intro m
  induction m with
  | zero => intro i h hi; exact ⟨i, Nat.le_refl _, hi, dropWhile_stop (by omega)⟩
  | succ m ih =>
    intro i h hi
    cases hp : p (t i)
    · exact ⟨i, Nat.le_refl _, hi, dropWhile_no (by omega) hp⟩
    · obtain ⟨j, h1, h2, h3⟩ := ih (i + 1) (by omega) (by omega)
      exact ⟨j, by omega, h2, by rw [dropWhile_yes (by omega) hp, h3]⟩

theorem pw_short : ∀ (w l : List Int), l.length < w.length → pw w l = none := by
  intro w
  induction w with
  | nil => intro l h; simp at h
  | cons c w ih =>
    intro l h
    cases l with
    | nil => rfl
    | cons x l => rw [pw]; split
                  · exact ih l (by simpa using h)
                  · rfl

section
variable {t : Nat → Int} {n j k : Nat}
theorem pm_yes (h : j < n) (e : t j = 45) : pm (S t n j) = S t n (j + 1) := by rw [S_cons h, pm, if_pos e]
theorem pm_no (h : j < n) (e : ¬ t j = 45) : pm (S t n j) = S t n j := by rw [S_cons h, pm, if_neg e]
theorem dgs_no (e : (S t n j).dropWhile isDg = S t n k) (hjk : j = k) : dgs (S t n j) = none := by
  by_cases h : j < n
  · rw [S_cons h, dgs]
    cases hd : isDg (t j)
    · simp
    · rw [dropWhile_yes h hd] at e
      have := congrArg List.length e
      have h2 := (List.dropWhile_sublist (p := isDg) (l := S t n (j + 1))).length_le
      simp only [S_length] at this h2
      omega
  · rw [S_nil h, dgs]
theorem dgs_yes (e : (S t n j).dropWhile isDg = S t n k) (hjk : j < k) (hk : k ≤ n) : dgs (S t n j) = some (S t n k) := by
  have h : j < n := by omega
  cases hd : isDg (t j)
  · rw [dropWhile_no h hd] at e
    have := S_inj (by omega) hk e
    omega
  · rw [← e, dropWhile_yes h hd, S_cons h, dgs, if_pos hd]
theorem pint_zero (h : j < n) (e : t j = 48) : pint (S t n j) = some (S t n (j + 1)) := by rw [S_cons h, pint, if_pos e]
theorem pint_dg (h : j < n) (e : ¬ t j = 48) (hd : isDg (t j) = true) : pint (S t n j) = some ((S t n j).dropWhile isDg) := by
  rw [dropWhile_yes h hd, S_cons h, pint, if_neg e, dgs, if_pos hd]
theorem pint_no (h : j < n) (e : ¬ t j = 48) (hd : isDg (t j) = false) : pint (S t n j) = none := by
  rw [S_cons h, pint, if_neg e, dgs, if_neg (by simp [hd])]
theorem pint_stop (h : ¬ j < n) : pint (S t n j) = none := by rw [S_nil h, pint]
theorem pf_stop (h : ¬ j < n) : pf (S t n j) = some (S t n j) := by rw [S_nil h, pf]
theorem pf_no (h : j < n) (e : ¬ t j = 46) : pf (S t n j) = some (S t n j) := by rw [S_cons h, pf, if_neg e]
theorem pf_dot (h : j < n) (e : t j = 46) : pf (S t n j) = dgs (S t n (j + 1)) := by rw [S_cons h, pf, if_pos e]
theorem pe_stop (h : ¬ j < n) : pe (S t n j) = some (S t n j) := by rw [S_nil h, pe]
theorem pe_no (h : j < n) (e : ¬ (t j = 101 ∨ t j = 69)) : pe (S t n j) = some (S t n j) := by rw [S_cons h, pe, if_neg e]
theorem pe_e (h : j < n) (e : t j = 101 ∨ t j = 69) : pe (S t n j) = dgs (sgn (S t n (j + 1))) := by rw [S_cons h, pe, if_pos e]
theorem sgn_stop (h : ¬ j < n) : sgn (S t n j) = S t n j := by rw [S_nil h, sgn]
theorem sgn_no (h : j < n) (e : ¬ (t j = 43 ∨ t j = 45)) : sgn (S t n j) = S t n j := by rw [S_cons h, sgn, if_neg e]
theorem sgn_yes (h : j < n) (e : t j = 43 ∨ t j = 45) : sgn (S t n j) = S t n (j + 1) := by rw [S_cons h, sgn, if_pos e]
/-- the state of a string behind m digits of a \u -/
def hs (m : Nat) : Nat := if m = 4 then 0 else m + 2
theorem ps_stop (h : ¬ j < n) (m : Nat) : ps (S t n j) m = none := by rw [S_nil h, ps]
theorem ps_quote (h : j < n) (e : t j = 34) : ps (S t n j) 0 = some (S t n (j + 1)) := by rw [S_cons h, ps, if_pos e]
theorem ps_low (h : j < n) (e : ¬ t j = 34) (e2 : t j < 32) : ps (S t n j) 0 = none := by rw [S_cons h, ps, if_neg e, if_pos e2]
theorem ps_plain (h : j < n) (e : ¬ t j = 34) (e2 : ¬ t j < 32) (e3 : ¬ t j = 92) : ps (S t n j) 0 = ps (S t n (j + 1)) 0 := by rw [S_cons h, ps, if_neg e, if_neg e2, if_neg e3]
theorem ps_back (h : j < n) (e3 : t j = 92) : ps (S t n j) 0 = ps (S t n (j + 1)) 1 := by rw [S_cons h, ps, if_neg (by omega), if_neg (by omega), if_pos e3]
theorem ps_esc (h : j < n) (e : isEs (t j) = true) : ps (S t n j) 1 = ps (S t n (j + 1)) 0 := by rw [S_cons h, ps, if_pos e]
theorem ps_u (h : j < n) (e : t j = 117) : ps (S t n j) 1 = ps (S t n (j + 1)) 2 := by rw [S_cons h, ps, if_neg (by rw [e]; decide), if_pos e]
theorem ps_bad (h : j < n) (e : isEs (t j) = false) (e2 : ¬ t j = 117) : ps (S t n j) 1 = none := by rw [S_cons h, ps, if_neg (by simp [e]), if_neg e2]
theorem ps_hex (h : j < n) {m : Nat} (hm : m < 4) (e : isHx (t j) = true) : ps (S t n j) (hs m) = ps (S t n (j + 1)) (hs (m + 1)) := by
  have h1 : hs m = m + 2 := by unfold hs; rw [if_neg (by omega)]
  have h2 : hs (m + 1) = if m = 3 then 0 else m + 3 := by unfold hs; split <;> split <;> omega
  rw [h1, h2, S_cons h, ps, if_pos e]
theorem ps_nohex (h : j < n) {m : Nat} (hm : m < 4) (e : isHx (t j) = false) : ps (S t n j) (hs m) = none := by
  have h1 : hs m = m + 2 := by unfold hs; rw [if_neg (by omega)]
  rw [h1, S_cons h, ps, if_neg (by simp [e])]
/-- a \u that the text's end cuts short -/
theorem ps_short : ∀ (q m j : Nat), q + m = 4 → n - j < q → ps (S t n j) (hs m) = none := by
  intro q
  induction q with
  | zero => intro m j _ h; omega
  | succ q ih =>
    intro m j hq hj
    by_cases h : j < n
    · cases e : isHx (t j)
      · exact ps_nohex h (by omega) e
      · rw [ps_hex h (by omega) e]; exact ih (m + 1) (j + 1) (by omega) (by omega)
    · exact ps_stop h _

end

end Go.Proofs.Qxb6600283a.Js
