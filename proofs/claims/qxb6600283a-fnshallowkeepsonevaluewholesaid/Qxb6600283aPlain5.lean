/-
  PLAIN, MORE: where valueEnd must end.
-/
import Derived.Test.Qxb6600283aPlain4
namespace Go.Proofs.Qxb6600283a.Js

theorem ps_S {t : Nat → Int} {n : Nat} : ∀ d q st r, n - q = d → q ≤ n → ps (S t n q) st = some r → ∃ e, r = S t n e ∧ q < e ∧ e ≤ n := by
  intro d
  induction d with
  | zero => intro q st r h1 h2 h3; rw [ps_stop (by omega)] at h3; simp at h3
  | succ d ih =>
    intro q st r h1 h2 h3
    have hq : q < n := by omega
    have step : ∀ st', ps (S t n (q + 1)) st' = some r → ∃ e, r = S t n e ∧ q < e ∧ e ≤ n := by
      intro st' a
      obtain ⟨e, h, h', h''⟩ := ih (q + 1) st' r (by omega) (by omega) a
      exact ⟨e, h, by omega, h''⟩
    rw [S_cons hq] at h3
    match st, h3 with
    | 0, h3 =>
      rw [ps] at h3
      split at h3
      · exact ⟨q + 1, (Option.some.inj h3).symm, by omega, by omega⟩
      · split at h3
        · simp at h3
        · split at h3
          · exact step _ h3
          · exact step _ h3
    | 1, h3 =>
      rw [ps] at h3
      split at h3
      · exact step _ h3
      · split at h3
        · exact step _ h3
        · simp at h3
    | m + 2, h3 =>
      rw [ps] at h3
      split at h3
      · exact step _ h3
      · simp at h3

theorem V_inv {t : Nat → Int} {n j e : Nat} {d : Int} (h : V (S t n j) d (S t n e)) : j < n ∧
    ((t j = 34 ∧ ∃ e', ps (S t n (j + 1)) 0 = some (S t n e') ∧ j + 1 < e' ∧ e' ≤ n ∧ V (S t n e') d (S t n e)) ∨
     ((t j = 123 ∨ t j = 91) ∧ V (S t n (j + 1)) (d + 1) (S t n e)) ∨
     ((t j = 125 ∨ t j = 93) ∧ d - 1 = 0 ∧ S t n (j + 1) = S t n e) ∨
     ((t j = 125 ∨ t j = 93) ∧ ¬ d - 1 = 0 ∧ V (S t n (j + 1)) (d - 1) (S t n e)) ∨
     (nb (t j) = true ∧ V (S t n (j + 1)) d (S t n e))) := by
  obtain ⟨g, h⟩ := h
  cases g with
  | zero => simp [vs] at h
  | succ g =>
    rw [vs] at h
    by_cases hj : j < n
    · refine ⟨hj, ?_⟩
      rw [un_go hj] at h
      split at h
      · rename_i h34
        cases hp : ps (S t n (j + 1)) 0 with
        | none => rw [hp] at h; simp at h
        | some r =>
          obtain ⟨e', rfl, h1, h2⟩ := ps_S _ (j + 1) 0 r rfl (by omega) hp
          rw [hp, Option.bind_some] at h
          exact .inl ⟨h34, e', rfl, h1, h2, g, h⟩
      · split at h
        · rename_i ho; exact .inr (.inl ⟨ho, g, h⟩)
        · split at h
          · rename_i hc
            split at h
            · rename_i hd; exact .inr (.inr (.inl ⟨hc, hd, Option.some.inj h⟩))
            · rename_i hd; exact .inr (.inr (.inr (.inl ⟨hc, hd, g, h⟩)))
          · rename_i a b c
            exact .inr (.inr (.inr (.inr ⟨by simp [nb]; omega, g, h⟩)))
    · rw [un_stop hj] at h; simp at h

/-- where valueEnd, started at i, must end -/
def VE (t : Nat → Int) (n i e : Nat) : Prop := (t i = 34 ∧ ps (S t n (i + 1)) 0 = some (S t n e)) ∨ ((t i = 123 ∨ t i = 91) ∧ V (S t n i) 0 (S t n e)) ∨
    (¬ t i = 34 ∧ ¬ t i = 91 ∧ ¬ t i = 123 ∧ (∀ k, i ≤ k → k < e → isDl (t k) = false) ∧ i ≤ e ∧ (e = n ∨ e < n ∧ isDl (t e) = true))

theorem Pl_S {p : Int → Bool} {t : Nat → Int} {n i e : Nat} (hi : i ≤ n) (he : e ≤ n) (h : Pl p (S t n i) (S t n e)) : i ≤ e ∧ ∀ k, i ≤ k → k < e → p (t k) = true := by
  obtain ⟨a, h, ha⟩ := h
  have hl := congrArg List.length h
  rw [List.length_append, S_length, S_length] at hl
  refine ⟨by omega, fun k h1 h2 => ?_⟩
  have hd := congrArg (List.drop (k - i)) h
  rw [S_drop, show i + (k - i) = k by omega, S_cons (by omega), List.drop_append_of_le_length (by omega)] at hd
  cases hx : a.drop (k - i) with
  | nil => have := congrArg List.length hx; rw [List.length_drop] at this; simp at this; omega
  | cons c r =>
    rw [hx] at hd
    have hc : t k = c := by simpa using (List.cons.inj hd).1
    rw [hc]
    exact ha c (List.mem_of_mem_drop (by rw [hx]; simp))

theorem VE_of_P {t : Nat → Int} {n i e f : Nat} (hi : i < n) (he : e ≤ n) (h : P f 0 (S t n i) = some (S t n e)) (hd : t i = 34 ∨ t i = 91 ∨ t i = 123 ∨ e = n ∨ e < n ∧ isDl (t e) = true) : VE t n i e := by
  cases f with
  | zero => simp [P] at h
  | succ f =>
    obtain ⟨c, l', hl, h⟩ := P_zero_some h
    have hl2 := hl
    rw [S_cons hi] at hl2
    obtain ⟨hc, hl'⟩ := List.cons.inj hl2
    subst hc
    subst hl'
    rcases h with ⟨h1, h⟩ | ⟨h1, h⟩ | ⟨h1, h⟩ | ⟨h1, h2, h3, h⟩
    · exact .inl ⟨h1, h⟩
    · refine .inr (.inl ⟨.inr h1, ?_⟩)
      rw [S_cons hi]
      have hc : C (S t n e) 1 (S t n e) := .inl ⟨rfl, rfl⟩
      exact V_open (.inr h1) (openA_V (by omega) h hc fun l hl => (P_V f).2.1 l _ _ _ (by omega) hl hc)
    · refine .inr (.inl ⟨.inl h1, ?_⟩)
      rw [S_cons hi]
      have hc : C (S t n e) 1 (S t n e) := .inl ⟨rfl, rfl⟩
      exact V_open (.inl h1) (openA_V (by omega) h hc fun l hl => (P_V f).2.2 l _ _ _ (by omega) hl hc)
    · obtain ⟨hie, hp⟩ := Pl_S (by omega) he h
      refine .inr (.inr ⟨h1, h2, h3, fun k a b => plain_dl (hp k a b), hie, ?_⟩)
      rcases hd with h | h | h | h
      · exact absurd h h1
      · exact absurd h h2
      · exact absurd h h3
      · exact h

/-- what a string's walk wants to know of its end -/
theorem str_facts {t : Nat → Int} {n i e : Nat} (hi : i < n) (he : e ≤ n) (h34 : t i = 34) (h : ps (S t n (i + 1)) 0 = some (S t n e)) :
    ∃ q0, e = q0 + 1 ∧ i < q0 ∧ t q0 = 34 ∧ bk t q0 % 2 = 0 ∧ ∀ m, i < m → m < q0 → t m = 34 → bk t m % 2 = 1 := by
  have hz : bk t (i + 1) = 0 := bk_not (by omega)
  obtain ⟨q0, a, b, c, d, f⟩ := str_of he _ (i + 1) 0 rfl (by omega) h (by omega) (by omega)
  exact ⟨q0, a, by omega, c, d, fun m h1 h2 h3 => f m (by omega) h2 h3⟩

end Go.Proofs.Qxb6600283a.Js
