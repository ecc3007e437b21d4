/-
  PLAIN, MORE: Shallow as a function on lists, and that the parser reads what it leaves.
-/
import Derived.Test.Qxb6600283aPlain4
namespace Go.Proofs.Qxb6600283a.Js

/-- kept where the level lies below the depth -/
def kp (dep o c : Int) (l : List Int) : List Int := if dep ≤ o then l else c :: l
/-- Shallow: what is left of the text; o: how many brackets are open; 0: outside strings, 1: inside, 2: inside, behind a backslash -/
def sh (dep : Int) : List Int → Int → Nat → List Int
  | [], _, _ => []
  | c :: r, o, 0 => if c = 34 then kp dep o c (sh dep r o 1)
      else if c = 91 ∨ c = 123 then (if dep < o + 1 then sh dep r (o + 1) 0 else c :: sh dep r (o + 1) 0)
      else if c = 93 ∨ c = 125 then (if dep < o then sh dep r (o - 1) 0 else c :: sh dep r (o - 1) 0)
      else kp dep o c (sh dep r o 0)
  | c :: r, o, 1 => kp dep o c (sh dep r o (if c = 92 then 2 else if c = 34 then 0 else 1))
  | c :: r, o, _ + 2 => kp dep o c (sh dep r o 1)

section
variable {dep o : Int}

theorem sh_nil (m : Nat) : sh dep [] o m = [] := by cases m <;> rw [sh]
theorem sh_length : ∀ (l : List Int) (o : Int) (m : Nat), (sh dep l o m).length ≤ l.length := by
  intro l
  induction l with
  | nil => intro o m; rw [sh_nil]; simp
  | cons c r ih =>
    intro o m
    have hk : ∀ o' m', (kp dep o c (sh dep r o' m')).length ≤ r.length + 1 := fun o' m' => by
      have := ih o' m'
      unfold kp; split
      · omega
      · simp; omega
    have hk2 : ∀ o' m', (c :: sh dep r o' m').length ≤ r.length + 1 := fun o' m' => by have := ih o' m'; simp; omega
    have hk3 : ∀ o' m', (sh dep r o' m').length ≤ r.length + 1 := fun o' m' => by have := ih o' m'; omega
    rw [List.length_cons]
    match m with
    | 0 => rw [sh]; repeat' split
           all_goals first | exact hk _ _ | exact hk2 _ _ | exact hk3 _ _
    | 1 => rw [sh]; exact hk _ _
    | m + 2 => rw [sh]; exact hk _ _

/-! ### below the depth -/
theorem kp_lo (h : o < dep) (c : Int) (l : List Int) : kp dep o c l = c :: l := if_neg (by omega)
theorem kp_hi (h : dep ≤ o) (c : Int) (l : List Int) : kp dep o c l = l := if_pos h
theorem sh_nb {c : Int} (hc : nb c = true) (r : List Int) : sh dep (c :: r) o 0 = kp dep o c (sh dep r o 0) := by
  obtain ⟨h1, h2, h3⟩ := nb_F hc
  rw [sh, if_neg h1, if_neg (by omega), if_neg (by omega)]
theorem sh_nb_lo (h : o < dep) {c : Int} (hc : nb c = true) (r : List Int) : sh dep (c :: r) o 0 = c :: sh dep r o 0 := by rw [sh_nb hc, kp_lo h]
theorem sh_nb_hi (h : dep ≤ o) {c : Int} (hc : nb c = true) (r : List Int) : sh dep (c :: r) o 0 = sh dep r o 0 := by rw [sh_nb hc, kp_hi h]
theorem sh_close {c : Int} (hc : c = 93 ∨ c = 125) (r : List Int) : sh dep (c :: r) o 0 = if dep < o then sh dep r (o - 1) 0 else c :: sh dep r (o - 1) 0 := by
  rw [sh, if_neg (by omega), if_neg (by omega), if_pos hc]
theorem sh_open {c : Int} (hc : c = 91 ∨ c = 123) (r : List Int) : sh dep (c :: r) o 0 = if dep < o + 1 then sh dep r (o + 1) 0 else c :: sh dep r (o + 1) 0 := by
  rw [sh, if_neg (by omega), if_pos hc]
theorem sh_quote (r : List Int) : sh dep (34 :: r) o 0 = kp dep o 34 (sh dep r o 1) := by rw [sh, if_pos rfl]
/-- the head stays -/
theorem sh_hd (h : o < dep) (c : Int) (r : List Int) : ∃ X, sh dep (c :: r) o 0 = c :: X := by
  rw [sh]
  split
  · exact ⟨_, kp_lo h _ _⟩
  · split
    · rw [if_neg (by omega)]; exact ⟨_, rfl⟩
    · split
      · rw [if_neg (by omega)]; exact ⟨_, rfl⟩
      · exact ⟨_, kp_lo h _ _⟩

theorem sh_drop (h : o < dep) {p : Int → Bool} (hp : ∀ c, p c = true → nb c = true) : ∀ l, (sh dep l o 0).dropWhile p = sh dep (l.dropWhile p) o 0 := by
  intro l
  induction l with
  | nil => rw [sh_nil]; rfl
  | cons c r ih =>
    rw [List.dropWhile_cons]
    cases hc : p c
    · obtain ⟨X, e⟩ := sh_hd (dep := dep) h c r
      rw [e, List.dropWhile_cons]
      simp [hc, e]
    · rw [sh_nb_lo h (hp c hc), List.dropWhile_cons]
      simp [hc, ih]
theorem sp_nb' (c : Int) (h : isSp c = true) : nb c = true := by simp [isSp] at h; simp [nb]; omega
theorem dg_nb' (c : Int) (h : isDg c = true) : nb c = true := plain_nb (dg_plain h)
theorem sh_sp (h : o < dep) (l : List Int) : sp (sh dep l o 0) = sh dep (sp l) o 0 := sh_drop h sp_nb' l
theorem sh_Pl_hi (h : dep ≤ o) {l r : List Int} (hp : Pl nb l r) : sh dep l o 0 = sh dep r o 0 := by
  obtain ⟨a, rfl, ha⟩ := hp
  induction a with
  | nil => rfl
  | cons c a ih => rw [List.cons_append, sh_nb_hi h (ha c (by simp))]; exact ih fun x hx => ha x (by simp [hx])

theorem sh_dgs (h : o < dep) {l r : List Int} (e : dgs l = some r) : dgs (sh dep l o 0) = some (sh dep r o 0) := by
  cases l with
  | nil => simp [dgs] at e
  | cons c l =>
    rw [dgs] at e
    split at e
    · rename_i hd
      rw [sh_nb_lo h (dg_nb' c hd), dgs, if_pos hd, sh_drop h dg_nb', Option.some.inj e]
    · simp at e
theorem sh_pm (h : o < dep) (l : List Int) : pm (sh dep l o 0) = sh dep (pm l) o 0 := by
  cases l with
  | nil => rw [sh_nil, pm, sh_nil]
  | cons c l =>
    rw [pm]
    split
    · rename_i hc; subst hc; rw [sh_nb_lo h (by decide), pm, if_pos rfl]
    · rename_i hc
      obtain ⟨X, e⟩ := sh_hd (dep := dep) h c l
      rw [e, pm, if_neg hc]
theorem sh_sgn (h : o < dep) (l : List Int) : sgn (sh dep l o 0) = sh dep (sgn l) o 0 := by
  cases l with
  | nil => rw [sh_nil, sgn, sh_nil]
  | cons c l =>
    rw [sgn]
    split
    · rename_i hc
      have : nb c = true := by rcases hc with rfl | rfl <;> decide
      rw [sh_nb_lo h this, sgn, if_pos hc]
    · rename_i hc
      obtain ⟨X, e⟩ := sh_hd (dep := dep) h c l
      rw [e, sgn, if_neg hc]
theorem sh_pint (h : o < dep) {l r : List Int} (e : pint l = some r) : pint (sh dep l o 0) = some (sh dep r o 0) := by
  cases l with
  | nil => simp [pint] at e
  | cons c l =>
    rw [pint] at e
    split at e
    · rename_i hc
      subst hc
      rw [sh_nb_lo h (by decide), pint, if_pos rfl, Option.some.inj e]
    · rename_i hc
      have := sh_dgs (dep := dep) h e
      obtain ⟨X, e2⟩ := sh_hd (dep := dep) h c l
      rw [e2] at this ⊢
      rw [pint, if_neg hc, this]
theorem sh_pf (h : o < dep) {l r : List Int} (e : pf l = some r) : pf (sh dep l o 0) = some (sh dep r o 0) := by
  cases l with
  | nil => simp [pf] at e; subst e; rw [sh_nil, pf]
  | cons c l =>
    rw [pf] at e
    split at e
    · rename_i hc
      subst hc
      rw [sh_nb_lo h (by decide), pf, if_pos rfl, sh_dgs h e]
    · rename_i hc
      obtain rfl := Option.some.inj e
      obtain ⟨X, e2⟩ := sh_hd (dep := dep) h c l
      rw [e2, pf, if_neg hc]
theorem sh_pe (h : o < dep) {l r : List Int} (e : pe l = some r) : pe (sh dep l o 0) = some (sh dep r o 0) := by
  cases l with
  | nil => simp [pe] at e; subst e; rw [sh_nil, pe]
  | cons c l =>
    rw [pe] at e
    split at e
    · rename_i hc
      have : nb c = true := by rcases hc with rfl | rfl <;> decide
      rw [sh_nb_lo h this, pe, if_pos hc, sh_sgn h, sh_dgs h e]
    · rename_i hc
      obtain rfl := Option.some.inj e
      obtain ⟨X, e2⟩ := sh_hd (dep := dep) h c l
      rw [e2, pe, if_neg hc]
theorem sh_pn (h : o < dep) {l r : List Int} (e : pn l = some r) : pn (sh dep l o 0) = some (sh dep r o 0) := by
  rw [pn] at e ⊢
  rw [sh_pm h]
  cases h1 : pint (pm l) with
  | none => rw [h1] at e; simp at e
  | some l1 =>
    rw [h1, Option.bind_some] at e
    cases h2 : pf l1 with
    | none => rw [h2] at e; simp at e
    | some l2 =>
      rw [h2, Option.bind_some] at e
      rw [sh_pint h h1, Option.bind_some, sh_pf h h2, Option.bind_some, sh_pe h e]
theorem sh_pw (h : o < dep) : ∀ (w l r : List Int), (∀ c ∈ w, nb c = true) → pw w l = some r → pw w (sh dep l o 0) = some (sh dep r o 0) := by
  intro w
  induction w with
  | nil => intro l r _ e; rw [pw] at e; obtain rfl := Option.some.inj e; rw [pw]
  | cons c w ih =>
    intro l r hw e
    cases l with
    | nil => simp [pw] at e
    | cons x l =>
      rw [pw] at e
      split at e
      · rename_i hx
        subst hx
        rw [sh_nb_lo h (hw x (by simp)), pw, if_pos rfl, ih l r (fun y hy => hw y (by simp [hy])) e]
      · simp at e

/-! ### strings -/
def md (m : Nat) : Nat := if m = 1 then 2 else 1
theorem hx_ne {c : Int} (h : isHx c = true) : ¬ c = 92 ∧ ¬ c = 34 := by
  constructor
  · rintro rfl; revert h; decide
  · rintro rfl; revert h; decide
/-- one byte inside a string -/
theorem sh_in {c : Int} {r : List Int} {m m' : Nat} (hm : (m = 1 ∧ md m' = 1) ∨ (¬ m = 1 ∧ ¬ c = 34 ∧ (c = 92 ↔ m' = 1))) : sh dep (c :: r) o (md m) = kp dep o c (sh dep r o (md m')) := by
  rcases hm with ⟨rfl, h⟩ | ⟨h1, h2, h3⟩
  · rw [h, show md 1 = 0 + 2 from rfl, sh]
  · rw [show md m = 1 by unfold md; rw [if_neg h1], sh]
    congr 2
    unfold md
    by_cases c92 : c = 92
    · rw [if_pos c92, if_pos (h3.1 c92)]
    · rw [if_neg c92, if_neg h2, if_neg (fun h => c92 (h3.2 h))]
theorem sh_ps : ∀ (l r : List Int) (m : Nat), ps l m = some r → (o < dep → ps (sh dep l o (md m)) m = some (sh dep r o 0)) ∧ (dep ≤ o → sh dep l o (md m) = sh dep r o 0) := by
  intro l
  induction l with
  | nil => intro r m e; cases m <;> simp [ps] at e
  | cons c l ih =>
    intro r m e
    have step : ∀ m', ((m = 1 ∧ md m' = 1) ∨ (¬ m = 1 ∧ ¬ c = 34 ∧ (c = 92 ↔ m' = 1))) → ps l m' = some r → (∀ X, ps (c :: X) m = ps X m') →
        (o < dep → ps (sh dep (c :: l) o (md m)) m = some (sh dep r o 0)) ∧ (dep ≤ o → sh dep (c :: l) o (md m) = sh dep r o 0) := by
      intro m' hm e' hX
      obtain ⟨i1, i2⟩ := ih r m' e'
      refine ⟨fun h => ?_, fun h => ?_⟩
      · rw [sh_in hm, kp_lo h, hX, i1 h]
      · rw [sh_in hm, kp_hi h, i2 h]
    match m, e, step with
    | 0, e1, step =>
      rw [ps] at e1
      split at e1
      · rename_i hc
        clear e
        subst hc
        obtain rfl := Option.some.inj e1
        refine ⟨fun h => ?_, fun h => ?_⟩
        · rw [show md 0 = 1 from rfl, sh, kp_lo h, if_neg (by decide), if_pos rfl, ps, if_pos rfl]
        · rw [show md 0 = 1 from rfl, sh, kp_hi h, if_neg (by decide), if_pos rfl]
      · rename_i h34
        split at e1
        · simp at e1
        · rename_i hlow
          split at e1
          · rename_i h92
            exact step 1 (.inr ⟨by omega, h34, by simp [h92]⟩) e1 (fun X => by rw [ps, if_neg h34, if_neg hlow, if_pos h92])
          · rename_i h92
            exact step 0 (.inr ⟨by omega, h34, by simp [h92]⟩) e1 (fun X => by rw [ps, if_neg h34, if_neg hlow, if_neg h92])
    | 1, e, step =>
      rw [ps] at e
      split at e
      · rename_i hes
        exact step 0 (.inl ⟨rfl, rfl⟩) e (fun X => by rw [ps, if_pos hes])
      · rename_i hes
        split at e
        · rename_i hu
          exact step 2 (.inl ⟨rfl, rfl⟩) e (fun X => by rw [ps, if_neg hes, if_pos hu])
        · simp at e
    | m + 2, e, step =>
      rw [ps] at e
      split at e
      · rename_i hx
        obtain ⟨a, b⟩ := hx_ne hx
        refine step _ (.inr ⟨by omega, b, ?_⟩) e (fun X => by rw [ps, if_pos hx])
        constructor
        · intro h; exact absurd h a
        · intro h; split at h <;> omega
      · simp at e
theorem sh_str_lo (h : o < dep) {l r : List Int} (e : ps l 0 = some r) : ∃ X, sh dep (34 :: l) o 0 = 34 :: X ∧ ps X 0 = some (sh dep r o 0) := by
  refine ⟨sh dep l o 1, ?_, (sh_ps l r 0 e).1 h⟩
  rw [sh_quote, kp_lo h]
theorem sh_str_hi (h : dep ≤ o) {l r : List Int} (e : ps l 0 = some r) : sh dep (34 :: l) o 0 = sh dep r o 0 := by
  rw [sh_quote, kp_hi h]
  exact (sh_ps l r 0 e).2 h

/-! ### behind an element, behind an opening bracket -/
/-- what stands in the place of what follows a closing bracket c, at level o -/
def cl (dep o c : Int) (r : List Int) : List Int := if dep < o then sh dep r (o - 1) 0 else c :: sh dep r (o - 1) 0
theorem sh_tail {f m : Nat} {c : Int} {l r : List Int} (hc : c = 93 ∨ c = 125) (e : tailA f m c l = some r)
    (ih : ∀ l, P f m l = some r → (o < dep → P f m (sh dep l o 0) = some (sh dep r (o - 1) 0)) ∧ (dep ≤ o → sh dep l o 0 = cl dep o c r)) :
    (o < dep → tailA f m c (sh dep l o 0) = some (sh dep r (o - 1) 0)) ∧ (dep ≤ o → sh dep l o 0 = cl dep o c r) := by
  rw [tailA] at e
  have e0 := un_some e
  clear e
  obtain ⟨x, r', hx, e⟩ := e0
  refine ⟨fun h => ?_, fun h => ?_⟩
  · rw [tailA, sh_sp h, hx]
    split at e
    · rename_i hxc
      subst hxc
      obtain rfl := Option.some.inj e
      rw [sh_close hc, if_neg (by omega), un, if_pos rfl]
    · rename_i hxc
      split at e
      · rename_i h44
        subst h44
        rw [sh_nb_lo h (by decide), un, if_neg hxc, if_pos rfl, sh_sp h]
        exact (ih _ e).1 h
      · simp at e
  · rw [sh_Pl_hi h (sp_nb l), hx]
    split at e
    · rename_i hxc
      subst hxc
      obtain rfl := Option.some.inj e
      rw [sh_close hc, cl]
    · split at e
      · rename_i h44
        subst h44
        rw [sh_nb_hi h (by decide), sh_Pl_hi h (sp_nb r')]
        exact (ih _ e).2 h
      · simp at e
theorem sh_opened {f m : Nat} {c : Int} {l r : List Int} (hc : c = 93 ∨ c = 125) (e : openA f m c l = some r)
    (ih : ∀ l, P f m l = some r → (o < dep → P f m (sh dep l o 0) = some (sh dep r (o - 1) 0)) ∧ (dep ≤ o → sh dep l o 0 = cl dep o c r)) :
    (o < dep → openA f m c (sh dep l o 0) = some (sh dep r (o - 1) 0)) ∧ (dep ≤ o → sh dep l o 0 = cl dep o c r) := by
  rw [openA] at e
  have e0 := un_some e
  clear e
  obtain ⟨x, r', hx, e⟩ := e0
  refine ⟨fun h => ?_, fun h => ?_⟩
  · rw [openA, sh_sp h]
    split at e
    · rename_i hxc
      subst hxc
      obtain rfl := Option.some.inj e
      rw [hx, sh_close hc, if_neg (by omega), un, if_pos rfl]
    · rename_i hxc
      obtain ⟨X, eX⟩ := sh_hd (dep := dep) h x r'
      have h2 := (ih _ e).1 h
      rw [hx, eX] at h2 ⊢
      rw [un, if_neg hxc, h2]
  · rw [sh_Pl_hi h (sp_nb l)]
    split at e
    · rename_i hxc
      subst hxc
      obtain rfl := Option.some.inj e
      rw [hx, sh_close hc, cl]
    · exact (ih _ e).2 h

/-- a container, its opening bracket with it -/
theorem sh_cont {f m : Nat} {b c : Int} {l r : List Int} (hb : b = 91 ∧ c = 93 ∨ b = 123 ∧ c = 125) (e : openA f m c l = some r)
    (ih : ∀ o l, P f m l = some r → (o < dep → P f m (sh dep l o 0) = some (sh dep r (o - 1) 0)) ∧ (dep ≤ o → sh dep l o 0 = cl dep o c r)) :
    (o < dep → ∃ X, sh dep (b :: l) o 0 = b :: X ∧ openA f m c X = some (sh dep r o 0)) ∧ (dep ≤ o → sh dep (b :: l) o 0 = sh dep r o 0) := by
  have hc : c = 93 ∨ c = 125 := by omega
  obtain ⟨i1, i2⟩ := sh_opened (o := o + 1) hc e (ih (o + 1))
  rw [show o + 1 - 1 = o by omega] at i1
  refine ⟨fun h => ⟨sh dep l (o + 1) 0, by rw [sh_open (by omega), if_neg (by omega)], ?_⟩, fun h => ?_⟩
  · by_cases h1 : o + 1 < dep
    · exact i1 h1
    · rw [i2 (by omega), cl, if_neg (by omega), show o + 1 - 1 = o by omega, openA]
      have : sp (c :: sh dep r o 0) = c :: sh dep r o 0 := by
        rw [sp, List.dropWhile_cons]
        rcases hc with rfl | rfl <;> rfl
      rw [this, un, if_pos rfl]
  · rw [sh_open (by omega), if_pos (by omega), i2 (by omega), cl, if_pos (by omega), show o + 1 - 1 = o by omega]

theorem P_zero_some' {f : Nat} {l r : List Int} (h : P (f + 1) 0 l = some r) : ∃ c l', l = c :: l' ∧ ((c = 34 ∧ ps l' 0 = some r) ∨ (c = 91 ∧ openA f 1 93 l' = some r) ∨ (c = 123 ∧ openA f 2 125 l' = some r) ∨
    (¬ c = 34 ∧ ¬ c = 91 ∧ ¬ c = 123 ∧ Pl plain l r ∧ ((c = 116 ∧ pw [116, 114, 117, 101] l = some r) ∨ (¬ c = 116 ∧ c = 102 ∧ pw [102, 97, 108, 115, 101] l = some r) ∨ (¬ c = 116 ∧ ¬ c = 102 ∧ c = 110 ∧ pw [110, 117, 108, 108] l = some r) ∨ (¬ c = 116 ∧ ¬ c = 102 ∧ ¬ c = 110 ∧ pn l = some r)))) := by
  obtain ⟨c, l', rfl, h'⟩ := P_zero_some h
  refine ⟨c, l', rfl, ?_⟩
  rcases h' with h' | h' | h' | ⟨h1, h2, h3, h4⟩
  · exact .inl h'
  · exact .inr (.inl h')
  · exact .inr (.inr (.inl h'))
  · refine .inr (.inr (.inr ⟨h1, h2, h3, h4, ?_⟩))
    rw [P, un, if_neg h1, if_neg h2, if_neg h3] at h
    by_cases a : c = 116
    · rw [if_pos a] at h; exact .inl ⟨a, h⟩
    · rw [if_neg a] at h
      by_cases b : c = 102
      · rw [if_pos b] at h; exact .inr (.inl ⟨a, b, h⟩)
      · rw [if_neg b] at h
        by_cases d : c = 110
        · rw [if_pos d] at h; exact .inr (.inr (.inl ⟨a, b, d, h⟩))
        · rw [if_neg d] at h; exact .inr (.inr (.inr ⟨a, b, d, h⟩))
theorem P_zero_hd (f : Nat) (c : Int) (X : List Int) : P (f + 1) 0 (c :: X) = (if c = 34 then ps X 0 else if c = 91 then openA f 1 93 X else if c = 123 then openA f 2 125 X
    else if c = 116 then pw [116, 114, 117, 101] (c :: X) else if c = 102 then pw [102, 97, 108, 115, 101] (c :: X) else if c = 110 then pw [110, 117, 108, 108] (c :: X) else pn (c :: X)) := by
  rw [P]; rfl
theorem P_two_hd (f : Nat) (X : List Int) : P (f + 1) 2 (34 :: X) = (ps X 0).bind (valA f) := by rw [P]; rfl

/-- THE LAW: what the parser reads it reads again in what Shallow leaves -/
theorem P_sh (dep : Int) : ∀ f,
    (∀ o l r, P f 0 l = some r → (o < dep → P f 0 (sh dep l o 0) = some (sh dep r o 0)) ∧ (dep ≤ o → sh dep l o 0 = sh dep r o 0)) ∧
    (∀ o l r, P f 1 l = some r → (o < dep → P f 1 (sh dep l o 0) = some (sh dep r (o - 1) 0)) ∧ (dep ≤ o → sh dep l o 0 = cl dep o 93 r)) ∧
    (∀ o l r, P f 2 l = some r → (o < dep → P f 2 (sh dep l o 0) = some (sh dep r (o - 1) 0)) ∧ (dep ≤ o → sh dep l o 0 = cl dep o 125 r)) := by
  intro f
  induction f with
  | zero => exact ⟨fun o l r h => by simp [P] at h, fun o l r h => by simp [P] at h, fun o l r h => by simp [P] at h⟩
  | succ f ih =>
    obtain ⟨ih0, ih1, ih2⟩ := ih
    refine ⟨fun o l r h => ?_, fun o l r h => ?_, fun o l r h => ?_⟩
    · obtain ⟨c, l', rfl, h⟩ := P_zero_some' h
      rcases h with ⟨rfl, h⟩ | ⟨rfl, h⟩ | ⟨rfl, h⟩ | ⟨n1, n2, n3, hpl, h⟩
      · refine ⟨fun hl => ?_, fun hh => sh_str_hi hh h⟩
        obtain ⟨X, e1, e2⟩ := sh_str_lo hl h
        rw [e1, P_zero_hd, if_pos rfl, e2]
      · obtain ⟨k1, k2⟩ := sh_cont (dep := dep) (o := o) (b := 91) (c := 93) (.inl ⟨rfl, rfl⟩) h (fun o l hl => ih1 o l r hl)
        refine ⟨fun hl => ?_, k2⟩
        obtain ⟨X, e1, e2⟩ := k1 hl
        rw [e1, P_zero_hd, if_neg (by decide), if_pos rfl, e2]
      · obtain ⟨k1, k2⟩ := sh_cont (dep := dep) (o := o) (b := 123) (c := 125) (.inr ⟨rfl, rfl⟩) h (fun o l hl => ih2 o l r hl)
        refine ⟨fun hl => ?_, k2⟩
        obtain ⟨X, e1, e2⟩ := k1 hl
        rw [e1, P_zero_hd, if_neg (by decide), if_neg (by decide), if_pos rfl, e2]
      · refine ⟨fun hl => ?_, fun hh => sh_Pl_hi hh (hpl.mono fun c => plain_nb)⟩
        obtain ⟨X, eX⟩ := sh_hd (dep := dep) hl c l'
        rcases h with ⟨q1, h⟩ | ⟨q1, q2, h⟩ | ⟨q1, q2, q3, h⟩ | ⟨q1, q2, q3, h⟩
        · have := sh_pw (dep := dep) hl _ _ _ (by decide) h
          rw [eX] at this ⊢
          rw [P_zero_hd, if_neg n1, if_neg n2, if_neg n3, if_pos q1, this]
        · have := sh_pw (dep := dep) hl _ _ _ (by decide) h
          rw [eX] at this ⊢
          rw [P_zero_hd, if_neg n1, if_neg n2, if_neg n3, if_neg q1, if_pos q2, this]
        · have := sh_pw (dep := dep) hl _ _ _ (by decide) h
          rw [eX] at this ⊢
          rw [P_zero_hd, if_neg n1, if_neg n2, if_neg n3, if_neg q1, if_neg q2, if_pos q3, this]
        · have := sh_pn (dep := dep) hl h
          rw [eX] at this ⊢
          rw [P_zero_hd, if_neg n1, if_neg n2, if_neg n3, if_neg q1, if_neg q2, if_neg q3, this]
    · rw [P_one] at h
      cases h0 : P f 0 l with
      | none => rw [h0] at h; simp at h
      | some l1 =>
        rw [h0, Option.bind_some] at h
        obtain ⟨a1, a2⟩ := ih0 o l l1 h0
        obtain ⟨b1, b2⟩ := sh_tail (dep := dep) (o := o) (.inl rfl) h (fun l hl => ih1 o l r hl)
        refine ⟨fun hl => ?_, fun hh => ?_⟩
        · rw [P_one, a1 hl, Option.bind_some, b1 hl]
        · rw [a2 hh, b2 hh]
    · rw [P] at h
      have h0 := un_some h
      clear h
      obtain ⟨c, l', rfl, h⟩ := h0
      split at h
      · rename_i hc34
        subst hc34
        cases h1 : ps l' 0 with
        | none => rw [h1] at h; simp at h
        | some l1 =>
          rw [h1, Option.bind_some] at h
          have h9 := un_some h
          clear h
          obtain ⟨x, l2, e, h⟩ := h9
          split at h
          · rename_i hx
            subst hx
            cases h3 : P f 0 (sp l2) with
            | none => rw [h3] at h; simp at h
            | some l3 =>
              rw [h3, Option.bind_some] at h
              obtain ⟨a1, a2⟩ := ih0 o _ l3 h3
              obtain ⟨b1, b2⟩ := sh_tail (dep := dep) (o := o) (.inr rfl) h (fun l hl => ih2 o l r hl)
              refine ⟨fun hl => ?_, fun hh => ?_⟩
              · obtain ⟨X, e1, e2⟩ := sh_str_lo hl h1
                rw [e1, P_two_hd, e2, Option.bind_some, valA, sh_sp hl, e, sh_nb_lo hl (by decide), un, if_pos rfl, sh_sp hl, a1 hl, Option.bind_some, b1 hl]
              · rw [sh_str_hi hh h1, sh_Pl_hi hh (sp_nb l1), e, sh_nb_hi hh (by decide), sh_Pl_hi hh (sp_nb l2), a2 hh, b2 hh]
          · simp at h
      · simp at h
end

end Go.Proofs.Qxb6600283a.Js
