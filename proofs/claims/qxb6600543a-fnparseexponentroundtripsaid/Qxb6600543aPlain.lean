/-
  PLAIN FUNCTIONS FOR SEAT b6600543a: decimal digits written and read back, the reading clamped at a billion. Nothing of the program here.
-/
namespace Go.Proofs.Qxb6600543a.Ex

/-- one digit more, clamped -/
def stp (x : Int) (c : UInt8) : Int := min (x * 10 + ((c.toNat : Int) - 48)) 1000000000
def ev (l : List UInt8) (x : Int) : Int := l.foldl stp x
theorem ev_snoc (l : List UInt8) (c : UInt8) (x : Int) : ev (l ++ [c]) x = stp (ev l x) c := by simp [ev]
theorem stp_bd {x : Int} {c : UInt8} (h0 : 0 ≤ x) (hc : 48 ≤ (c.toNat : Int)) : 0 ≤ stp x c ∧ stp x c ≤ 1000000000 := by
  unfold stp; omega
theorem ev_bd : ∀ (l : List UInt8) (x : Int), 0 ≤ x → x ≤ 1000000000 → (∀ c ∈ l, 48 ≤ (c.toNat : Int)) → 0 ≤ ev l x ∧ ev l x ≤ 1000000000 := by
  intro l
  induction l with
  | nil => intro x h1 h2 _; exact ⟨h1, h2⟩
  | cons c l ih =>
    intro x h1 h2 h3
    have := stp_bd (x := x) (c := c) h1 (h3 c (by simp))
    exact ih (stp x c) this.1 this.2 (fun y hy => h3 y (by simp [hy]))

/-- the digits of v, the least first -/
def lsd : Nat → Nat → List Int
  | 0, _ => []
  | f + 1, v => (48 + (v : Int) % 10) :: (if v / 10 = 0 then [] else lsd f (v / 10))
def u8 (x : Int) : UInt8 := UInt8.ofNat x.toNat

theorem u8_dig (v : Nat) : ((u8 (48 + (v : Int) % 10)).toNat : Int) = 48 + (v : Int) % 10 := by
  unfold u8
  rw [UInt8.toNat_ofNat']
  omega
theorem lsd_dig : ∀ f v, ∀ x ∈ lsd f v, 48 ≤ x ∧ x ≤ 57 := by
  intro f
  induction f with
  | zero => intro v x h; simp [lsd] at h
  | succ f ih =>
    intro v x h
    rw [lsd] at h
    rcases List.mem_cons.1 h with h | h
    · omega
    · split at h
      · simp at h
      · exact ih _ x h
theorem lsd_length : ∀ f v, (lsd f v).length ≤ f := by
  intro f
  induction f with
  | zero => intro v; simp [lsd]
  | succ f ih => intro v; rw [lsd, List.length_cons]; split
                 · simp
                 · have := ih (v / 10); omega
/-- read back, the least digit last: the number itself, clamped -/
theorem ev_lsd : ∀ f v, v < 10 ^ f → ev ((lsd f v).reverse.map u8) 0 = min (v : Int) 1000000000 := by
  intro f
  induction f with
  | zero => intro v h; simp [lsd, ev] at *; subst h; decide
  | succ f ih =>
    intro v h
    rw [lsd, List.reverse_cons, List.map_append, List.map_singleton, ev_snoc]
    have hr : ev ((if v / 10 = 0 then [] else lsd f (v / 10)).reverse.map u8) 0 = min ((v / 10 : Nat) : Int) 1000000000 := by
      split
      · rename_i h0; rw [h0]; decide
      · exact ih (v / 10) (by rw [Nat.pow_succ] at h; omega)
    rw [hr, stp, u8_dig]
    omega
theorem ev_zeros (l : List UInt8) : ∀ k, ev (List.replicate k 48 ++ l) 0 = ev l 0 := by
  intro k
  induction k with
  | zero => rfl
  | succ k ih =>
    rw [List.replicate_succ, List.cons_append]
    show ev (List.replicate k 48 ++ l) (stp 0 48) = _
    rw [show stp 0 48 = 0 from by decide]
    exact ih

end Go.Proofs.Qxb6600543a.Ex
