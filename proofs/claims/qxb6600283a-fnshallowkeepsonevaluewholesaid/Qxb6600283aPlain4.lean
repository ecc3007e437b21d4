/-
  PLAIN, MORE: what the parser reads, the scan of brackets and strings passes over.
-/
import Derived.Test.Qxb6600283aPlain2
import Derived.Test.Qxb6600283aPlain3
namespace Go.Proofs.Qxb6600283a.Js

theorem bk_not {t : Nat → Int} {q : Nat} (h : ¬ t q = 92) : bk t (q + 1) = 0 := by rw [bk, if_neg h]
theorem bk_yes {t : Nat → Int} {q : Nat} (h : t q = 92) : bk t (q + 1) = bk t q + 1 := by rw [bk, if_pos h]

/-- where a string ends, told by backslashes counted backwards -/
theorem str_of {t : Nat → Int} {n e : Nat} (he : e ≤ n) : ∀ d q st, n - q = d → q ≤ n → ps (S t n q) st = some (S t n e) → (st = 1 → bk t q % 2 = 1) → (st ≠ 1 → bk t q % 2 = 0) →
    ∃ q0, e = q0 + 1 ∧ q ≤ q0 ∧ t q0 = 34 ∧ bk t q0 % 2 = 0 ∧ ∀ m, q ≤ m → m < q0 → t m = 34 → bk t m % 2 = 1 := by
  intro d
  induction d with
  | zero => intro q st h1 h2 h3; rw [ps_stop (by omega)] at h3; simp at h3
  | succ d ih =>
    intro q st h1 h2 h3 h4 h5
    have hq : q < n := by omega
    have step : ∀ st', ps (S t n (q + 1)) st' = some (S t n e) → (st' = 1 → bk t (q + 1) % 2 = 1) → (st' ≠ 1 → bk t (q + 1) % 2 = 0) → (t q = 34 → bk t q % 2 = 1) →
        ∃ q0, e = q0 + 1 ∧ q ≤ q0 ∧ t q0 = 34 ∧ bk t q0 % 2 = 0 ∧ ∀ m, q ≤ m → m < q0 → t m = 34 → bk t m % 2 = 1 := by
      intro st' a b c hh
      obtain ⟨q0, r1, r2, r3, r4, r5⟩ := ih (q + 1) st' (by omega) (by omega) a b c
      refine ⟨q0, r1, by omega, r3, r4, fun m hm1 hm2 hm3 => ?_⟩
      by_cases hm : m = q
      · subst hm; exact hh hm3
      · exact r5 m (by omega) hm2 hm3
    match st, h3, h4, h5 with
    | 0, h3, h4, h5 =>
      have hb := h5 (by omega)
      by_cases c34 : t q = 34
      · rw [ps_quote hq c34] at h3
        have := S_inj (by omega) he (Option.some.inj h3)
        exact ⟨q, by omega, Nat.le_refl _, c34, hb, fun m _ _ _ => by omega⟩
      · by_cases c92 : t q = 92
        · rw [ps_back hq c92] at h3
          refine step 1 h3 (fun _ => ?_) (fun h => absurd rfl h) (fun h => absurd h c34)
          rw [bk_yes c92]; omega
        · by_cases clow : t q < 32
          · rw [ps_low hq c34 clow] at h3; simp at h3
          · rw [ps_plain hq c34 clow c92] at h3
            exact step 0 h3 (fun h => by omega) (fun _ => by rw [bk_not c92]) (fun h => absurd h c34)
    | 1, h3, h4, h5 =>
      have hb := h4 rfl
      cases ces : isEs (t q) with
      | true =>
        rw [ps_esc hq ces] at h3
        refine step 0 h3 (fun h => by omega) (fun _ => ?_) (fun _ => hb)
        by_cases c92 : t q = 92
        · rw [bk_yes c92]; omega
        · rw [bk_not c92]
      | false =>
        by_cases cu : t q = 117
        · rw [ps_u hq cu] at h3
          exact step 2 h3 (fun h => by omega) (fun _ => by rw [bk_not (by omega)]) (fun h => by omega)
        · rw [ps_bad hq ces cu] at h3; simp at h3
    | m + 2, h3, h4, h5 =>
      rw [S_cons hq, ps] at h3
      cases chx : isHx (t q) with
      | false => rw [chx] at h3; simp at h3
      | true =>
        rw [if_pos chx] at h3
        have c92 : ¬ t q = 92 := by intro h; rw [h] at chx; revert chx; decide
        have c34 : ¬ t q = 34 := by intro h; rw [h] at chx; revert chx; decide
        exact step _ h3 (fun h => by split at h <;> omega) (fun _ => by rw [bk_not c92]) (fun h => absurd h c34)

/-- the scan for the end of an array or object: strings passed over, brackets counted -/
def vs : Nat → List Int → Int → Option (List Int)
  | 0, _, _ => none
  | f + 1, l, d => un l fun c r =>
      if c = 34 then (ps r 0).bind fun r' => vs f r' d
      else if c = 123 ∨ c = 91 then vs f r (d + 1)
      else if c = 125 ∨ c = 93 then (if d - 1 = 0 then some r else vs f r (d - 1))
      else vs f r d
def V (l : List Int) (d : Int) (o : List Int) : Prop := ∃ g, vs g l d = some o

/-- no bracket, no quote -/
def nb (c : Int) : Bool := !(c == 34 || c == 123 || c == 91 || c == 125 || c == 93)
/-- and no delimiter -/
def plain (c : Int) : Bool := nb c && !isDl c

theorem nb_F {c : Int} (h : nb c = true) : ¬ c = 34 ∧ ¬ (c = 123 ∨ c = 91) ∧ ¬ (c = 125 ∨ c = 93) := by simp [nb] at h; omega
theorem V_nb {c : Int} {r o : List Int} {d : Int} (h : nb c = true) (hv : V r d o) : V (c :: r) d o := by
  obtain ⟨g, hg⟩ := hv
  obtain ⟨h1, h2, h3⟩ := nb_F h
  refine ⟨g + 1, ?_⟩
  rw [vs, un]
  simp only [if_neg h1, if_neg h2, if_neg h3, hg]
theorem V_open {c : Int} {r o : List Int} {d : Int} (h : c = 123 ∨ c = 91) (hv : V r (d + 1) o) : V (c :: r) d o := by
  obtain ⟨g, hg⟩ := hv
  refine ⟨g + 1, ?_⟩
  rw [vs, un]
  simp only [if_neg (show ¬ c = 34 by omega), if_pos h, hg]
theorem V_close {c : Int} {r o : List Int} {d : Int} (h : c = 125 ∨ c = 93) (hd : 2 ≤ d) (hv : V r (d - 1) o) : V (c :: r) d o := by
  obtain ⟨g, hg⟩ := hv
  refine ⟨g + 1, ?_⟩
  rw [vs, un]
  simp only [if_neg (show ¬ c = 34 by omega), if_neg (show ¬ (c = 123 ∨ c = 91) by omega), if_pos h, if_neg (show ¬ d - 1 = 0 by omega), hg]
theorem V_last {c : Int} {r : List Int} (h : c = 125 ∨ c = 93) : V (c :: r) 1 r := by
  refine ⟨1, ?_⟩
  rw [vs, un]
  simp only [if_neg (show ¬ c = 34 by omega), if_neg (show ¬ (c = 123 ∨ c = 91) by omega), if_pos h]
  rfl
theorem V_str {r r' o : List Int} {d : Int} (h : ps r 0 = some r') (hv : V r' d o) : V (34 :: r) d o := by
  obtain ⟨g, hg⟩ := hv
  refine ⟨g + 1, ?_⟩
  rw [vs, un]
  simp [h, hg]

/-- l is a run of bytes of which p speaks, then r -/
def Pl (p : Int → Bool) (l r : List Int) : Prop := ∃ a, l = a ++ r ∧ ∀ c ∈ a, p c = true
theorem Pl.refl (p : Int → Bool) (l : List Int) : Pl p l l := ⟨[], rfl, by simp⟩
theorem Pl.cons {p : Int → Bool} {c : Int} {l r : List Int} (h : p c = true) (k : Pl p l r) : Pl p (c :: l) r := by
  obtain ⟨a, rfl, ha⟩ := k
  exact ⟨c :: a, rfl, by simp [h]; exact ha⟩
theorem Pl.trans {p : Int → Bool} {l m r : List Int} (h : Pl p l m) (k : Pl p m r) : Pl p l r := by
  obtain ⟨a, rfl, ha⟩ := h
  obtain ⟨b, rfl, hb⟩ := k
  exact ⟨a ++ b, by simp, fun c hc => (List.mem_append.1 hc).elim (ha c) (hb c)⟩
theorem Pl.mono {p q : Int → Bool} (hpq : ∀ c, p c = true → q c = true) {l r : List Int} (h : Pl p l r) : Pl q l r := by
  obtain ⟨a, rfl, ha⟩ := h
  exact ⟨a, rfl, fun c hc => hpq c (ha c hc)⟩
theorem Pl.drop (p : Int → Bool) : ∀ l : List Int, Pl p l (l.dropWhile p) := by
  intro l
  induction l with
  | nil => exact Pl.refl _ _
  | cons c l ih =>
    rw [List.dropWhile_cons]
    cases h : p c
    · exact Pl.refl _ _
    · exact Pl.cons h ih
theorem V_Pl {l r o : List Int} {d : Int} (h : Pl nb l r) (hv : V r d o) : V l d o := by
  obtain ⟨a, rfl, ha⟩ := h
  induction a with
  | nil => exact hv
  | cons c a ih => exact V_nb (ha c (by simp)) (ih fun x hx => ha x (by simp [hx]))
theorem sp_nb (l : List Int) : Pl nb l (sp l) := (Pl.drop isSp l).mono fun c h => by simp [isSp] at h; simp [nb]; omega

theorem dg_plain {c : Int} (h : isDg c = true) : plain c = true := by simp [isDg] at h; simp [plain, nb, isDl]; omega
theorem dgs_pl {l r : List Int} (h : dgs l = some r) : Pl plain l r := by
  cases l with
  | nil => simp [dgs] at h
  | cons c l =>
    rw [dgs] at h
    split at h
    · rename_i hd
      obtain rfl := Option.some.inj h
      exact Pl.cons (dg_plain hd) ((Pl.drop isDg l).mono fun c => dg_plain)
    · simp at h
theorem pm_pl (l : List Int) : Pl plain l (pm l) := by
  cases l with
  | nil => exact Pl.refl _ _
  | cons c l =>
    rw [pm]; split
    · rename_i h; subst h; exact Pl.cons (by decide) (Pl.refl _ _)
    · exact Pl.refl _ _
theorem sgn_pl (l : List Int) : Pl plain l (sgn l) := by
  cases l with
  | nil => exact Pl.refl _ _
  | cons c l =>
    rw [sgn]; split
    · rename_i h
      rcases h with rfl | rfl
      · exact Pl.cons (by decide) (Pl.refl _ _)
      · exact Pl.cons (by decide) (Pl.refl _ _)
    · exact Pl.refl _ _
theorem pint_pl {l r : List Int} (h : pint l = some r) : Pl plain l r := by
  cases l with
  | nil => simp [pint] at h
  | cons c l =>
    rw [pint] at h
    split at h
    · rename_i hc; subst hc; obtain rfl := Option.some.inj h; exact Pl.cons (by decide) (Pl.refl _ _)
    · exact dgs_pl h
theorem pf_pl {l r : List Int} (h : pf l = some r) : Pl plain l r := by
  cases l with
  | nil => simp [pf] at h; subst h; exact Pl.refl _ _
  | cons c l =>
    rw [pf] at h
    split at h
    · rename_i hc; subst hc; exact Pl.cons (by decide) (dgs_pl h)
    · obtain rfl := Option.some.inj h; exact Pl.refl _ _
theorem pe_pl {l r : List Int} (h : pe l = some r) : Pl plain l r := by
  cases l with
  | nil => simp [pe] at h; subst h; exact Pl.refl _ _
  | cons c l =>
    rw [pe] at h
    split at h
    · rename_i hc
      have : plain c = true := by rcases hc with rfl | rfl <;> decide
      exact Pl.cons this ((sgn_pl l).trans (dgs_pl h))
    · obtain rfl := Option.some.inj h; exact Pl.refl _ _
theorem pn_pl {l r : List Int} (h : pn l = some r) : Pl plain l r := by
  rw [pn] at h
  cases h1 : pint (pm l) with
  | none => rw [h1] at h; simp at h
  | some l1 =>
    rw [h1, Option.bind_some] at h
    cases h2 : pf l1 with
    | none => rw [h2] at h; simp at h
    | some l2 =>
      rw [h2, Option.bind_some] at h
      exact (pm_pl l).trans ((pint_pl h1).trans ((pf_pl h2).trans (pe_pl h)))
theorem pw_pl : ∀ (w l r : List Int), (∀ c ∈ w, plain c = true) → pw w l = some r → Pl plain l r := by
  intro w
  induction w with
  | nil => intro l r _ h; rw [pw] at h; obtain rfl := Option.some.inj h; exact Pl.refl _ _
  | cons c w ih =>
    intro l r hw h
    cases l with
    | nil => simp [pw] at h
    | cons x l =>
      rw [pw] at h
      split at h
      · rename_i hx; subst hx; exact Pl.cons (hw x (by simp)) (ih l r (fun y hy => hw y (by simp [hy])) h)
      · simp at h
theorem plain_nb {c : Int} (h : plain c = true) : nb c = true := by simp [plain] at h; exact h.1
theorem plain_dl {c : Int} (h : plain c = true) : isDl c = false := by simp [plain] at h; exact h.2

theorem un_some {l : List Int} {k : Int → List Int → Option (List Int)} {o : List Int} (h : un l k = some o) : ∃ c r, l = c :: r ∧ k c r = some o := by
  cases l with
  | nil => simp [un] at h
  | cons c r => exact ⟨c, r, rfl, h⟩
/-- a value by its first byte -/
theorem P_zero_some {f : Nat} {l r : List Int} (h : P (f + 1) 0 l = some r) : ∃ c l', l = c :: l' ∧ ((c = 34 ∧ ps l' 0 = some r) ∨ (c = 91 ∧ openA f 1 93 l' = some r) ∨ (c = 123 ∧ openA f 2 125 l' = some r) ∨ (¬ c = 34 ∧ ¬ c = 91 ∧ ¬ c = 123 ∧ Pl plain l r)) := by
  rw [P] at h
  obtain ⟨c, l', rfl, h⟩ := un_some h
  refine ⟨c, l', rfl, ?_⟩
  by_cases h1 : c = 34
  · rw [if_pos h1] at h; exact .inl ⟨h1, h⟩
  · rw [if_neg h1] at h
    by_cases h2 : c = 91
    · rw [if_pos h2] at h; exact .inr (.inl ⟨h2, h⟩)
    · rw [if_neg h2] at h
      by_cases h3 : c = 123
      · rw [if_pos h3] at h; exact .inr (.inr (.inl ⟨h3, h⟩))
      · rw [if_neg h3] at h
        refine .inr (.inr (.inr ⟨h1, h2, h3, ?_⟩))
        split at h
        · exact pw_pl _ _ _ (by decide) h
        · split at h
          · exact pw_pl _ _ _ (by decide) h
          · split at h
            · exact pw_pl _ _ _ (by decide) h
            · exact pn_pl h

/-- behind the bracket that closes -/
def C (r : List Int) (d : Int) (o : List Int) : Prop := (d = 1 ∧ o = r) ∨ (2 ≤ d ∧ V r (d - 1) o)
theorem V_C {c : Int} {r o : List Int} {d : Int} (h : c = 125 ∨ c = 93) (hc : C r d o) : V (c :: r) d o := by
  rcases hc with ⟨rfl, rfl⟩ | ⟨h1, h2⟩
  · exact V_last h
  · exact V_close h h1 h2
theorem tailA_V {f m : Nat} {c : Int} {l r o : List Int} {d : Int} (hcl : c = 125 ∨ c = 93) (h : tailA f m c l = some r) (hc : C r d o)
    (ih : ∀ l, P f m l = some r → V l d o) : V l d o := by
  rw [tailA] at h
  have h0 := un_some h
  clear h
  obtain ⟨x, r', e, h⟩ := h0
  refine V_Pl (sp_nb l) ?_
  rw [e]
  split at h
  · rename_i hx; subst hx; obtain rfl := Option.some.inj h; exact V_C hcl hc
  · split at h
    · rename_i hx; subst hx; exact V_nb (by decide) (V_Pl (sp_nb r') (ih _ h))
    · simp at h
theorem openA_V {f m : Nat} {c : Int} {l r o : List Int} {d : Int} (hcl : c = 125 ∨ c = 93) (h : openA f m c l = some r) (hc : C r d o)
    (ih : ∀ l, P f m l = some r → V l d o) : V l d o := by
  rw [openA] at h
  have h0 := un_some h
  clear h
  obtain ⟨x, r', e, h⟩ := h0
  refine V_Pl (sp_nb l) ?_
  split at h
  · rename_i hx; subst hx; obtain rfl := Option.some.inj h; rw [e]; exact V_C hcl hc
  · exact ih _ h

/-- WHAT THE PARSER READS THE SCAN PASSES OVER -/
theorem P_V : ∀ f, (∀ l r o d, 1 ≤ d → P f 0 l = some r → V r d o → V l d o) ∧ (∀ l r o d, 1 ≤ d → P f 1 l = some r → C r d o → V l d o) ∧ (∀ l r o d, 1 ≤ d → P f 2 l = some r → C r d o → V l d o) := by
  intro f
  induction f with
  | zero => exact ⟨fun l r o d _ h => by simp [P] at h, fun l r o d _ h => by simp [P] at h, fun l r o d _ h => by simp [P] at h⟩
  | succ f ih =>
    obtain ⟨ih0, ih1, ih2⟩ := ih
    refine ⟨fun l r o d hd h hv => ?_, fun l r o d hd h hc => ?_, fun l r o d hd h hc => ?_⟩
    · obtain ⟨c, l', rfl, h⟩ := P_zero_some h
      rcases h with ⟨rfl, h⟩ | ⟨rfl, h⟩ | ⟨rfl, h⟩ | ⟨_, _, _, h⟩
      · exact V_str h hv
      · have hc : C r (d + 1) o := .inr ⟨by omega, by rw [show d + 1 - 1 = d by omega]; exact hv⟩
        exact V_open (by omega) (openA_V (by omega) h hc fun l hl => ih1 l r o (d + 1) (by omega) hl hc)
      · have hc : C r (d + 1) o := .inr ⟨by omega, by rw [show d + 1 - 1 = d by omega]; exact hv⟩
        exact V_open (by omega) (openA_V (by omega) h hc fun l hl => ih2 l r o (d + 1) (by omega) hl hc)
      · exact V_Pl (h.mono fun c => plain_nb) hv
    · rw [P_one] at h
      cases h0 : P f 0 l with
      | none => rw [h0] at h; simp at h
      | some l1 =>
        rw [h0, Option.bind_some] at h
        exact ih0 l l1 o d hd h0 (tailA_V (by omega) h hc fun l hl => ih1 l r o d hd hl hc)
    · rw [P] at h
      have h0 := un_some h
      clear h
      obtain ⟨c, l', rfl, h⟩ := h0
      split at h
      · rename_i hc34
        subst hc34
        cases h1 : ps l' 0 with
        | none => rw [h1] at h; simp at h
        | some l1 =>
          rw [h1, Option.bind_some] at h
          have h9 := un_some h
          clear h
          obtain ⟨x, l2, e, h⟩ := h9
          split at h
          · rename_i hx
            subst hx
            cases h3 : P f 0 (sp l2) with
            | none => rw [h3] at h; simp at h
            | some l3 =>
              rw [h3, Option.bind_some] at h
              refine V_str h1 (V_Pl (sp_nb l1) ?_)
              rw [e]
              refine V_nb (by decide) (V_Pl (sp_nb l2) (ih0 _ l3 o d hd h3 ?_))
              exact tailA_V (by omega) h hc fun l hl => ih2 l r o d hd hl hc
          · simp at h
      · simp at h

end Go.Proofs.Qxb6600283a.Js
