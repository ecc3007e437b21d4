/-
  PLAIN, MORE: backslashes counted backwards; the first place of a byte.
-/
import Derived.Test.Qxb6600283aPlain
import Derived.Lib.BytesEntry
namespace Go.Proofs.Qxb6600283a.Js

/-- how many backslashes end just before q -/
def bk (t : Nat → Int) : Nat → Nat
  | 0 => 0
  | q + 1 => if t q = 92 then bk t q + 1 else 0
theorem bk_le (t : Nat → Int) : ∀ q, bk t q ≤ q := by
  intro q
  induction q with
  | zero => simp [bk]
  | succ q ih => rw [bk]; split <;> omega
/-- the first place of c from j on -/
theorem first_at (t : Nat → Int) (c : Int) : ∀ d j e, e - j = d → j ≤ e → t e = c → ∃ q, j ≤ q ∧ q ≤ e ∧ t q = c ∧ ∀ m, j ≤ m → m < q → ¬ t m = c := by
  intro d
  induction d with
  | zero => intro j e h1 h2 h3; exact ⟨e, h2, Nat.le_refl _, h3, fun m h4 h5 => by omega⟩
  | succ d ih =>
    intro j e h1 h2 h3
    by_cases hj : t j = c
    · exact ⟨j, Nat.le_refl _, h2, hj, fun m h4 h5 => by omega⟩
    · obtain ⟨q, a, b, c', h⟩ := ih (j + 1) e (by omega) (by omega) h3
      refine ⟨q, by omega, b, c', fun m h4 h5 => ?_⟩
      by_cases hm : m = j
      · subst hm; exact hj
      · exact h m (by omega) h5

theorem byte_inj {a b : Int} (ha : 0 ≤ a ∧ a < 256) (hb : 0 ≤ b ∧ b < 256) (h : a.toNat.toUInt8 = b.toNat.toUInt8) : a = b := by
  have := congrArg UInt8.toNat h
  simp at this
  omega

theorem indexByte_at : ∀ (l : List UInt8) (c : UInt8) (k : Nat), l[k]? = some c → (∀ i, i < k → l[i]? ≠ some c) → Lib.indexByte l c = k := by
  intro l
  induction l with
  | nil => intro c k h; simp at h
  | cons b l ih =>
    intro c k h h2
    cases k with
    | zero => simp at h; simp [Lib.indexByte, h]
    | succ k =>
      have hb : ¬ b = c := by have := h2 0 (by omega); simpa using this
      have := ih c k (by simpa using h) (fun i hi => by have := h2 (i + 1) (by omega); simpa using this)
      rw [Lib.indexByte, this]
      simp [hb]
theorem indexByte_not : ∀ (l : List UInt8) (c : UInt8), (∀ b ∈ l, b ≠ c) → Lib.indexByte l c = -1 := by
  intro l
  induction l with
  | nil => intro c _; rfl
  | cons b l ih =>
    intro c h
    have hb : ¬ b = c := h b (by simp)
    rw [Lib.indexByte, ih c (fun x hx => h x (by simp [hx]))]
    simp [hb]

theorem getD_map (t : Nat → Int) (n i : Nat) (h : i < n) : ((List.range n).map t).getD i 0 = t i := by
  simp [List.getD_eq_getElem?_getD, h]
theorem indexByte_text (t : Nat → Int) (n k : Nat) (c : Int) (hk : k < n) (hr : ∀ i, i < n → 0 ≤ t i ∧ t i < 256) (hcr : 0 ≤ c ∧ c < 256) (ht : t k = c) (hno : ∀ i, i < k → ¬ t i = c) :
    Lib.indexByte (Lib.bytesOf ((List.range n).map t)) c.toNat.toUInt8 = k := by
  apply indexByte_at
  · simp [Lib.bytesOf, hk, ht]
  · intro i hi h
    simp [Lib.bytesOf, show i < n by omega] at h
    exact hno i hi (byte_inj (hr i (by omega)) hcr (by simpa using h))
theorem indexByte_text_none (t : Nat → Int) (n : Nat) (c : Int) (hr : ∀ i, i < n → 0 ≤ t i ∧ t i < 256) (hcr : 0 ≤ c ∧ c < 256) (hno : ∀ i, i < n → ¬ t i = c) :
    Lib.indexByte (Lib.bytesOf ((List.range n).map t)) c.toNat.toUInt8 = -1 := by
  apply indexByte_not
  intro b hb
  simp [Lib.bytesOf] at hb
  obtain ⟨i, hi, rfl⟩ := hb
  intro h
  exact hno i hi (byte_inj (hr i hi) hcr (by simpa using h))

end Go.Proofs.Qxb6600283a.Js
