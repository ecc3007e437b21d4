import Derived.Test.Qxb6600803aWalkL
namespace Go.Proofs.Qxb6600803a
open Go.RowKit Tm
set_option linter.unusedVariables false
set_option linter.unusedSimpArgs false

set_option maxRecDepth 100000 in
theorem po_z (w : World) : Calls Try.prog 29 #[.string (strOfNums [90])] w fun e w' => e = .returned (.tuple #[.int .i64 0, .bool true]) ∧ Below w.heap.size w w' := by
  have hs : strOfNums [90] = ⟨#[90]⟩ := by decide
  rw [hs]
  go_enter Try.func29, Try.ntmps29
  go_wp2
  go_ret2
  exact ⟨rfl, Below.refl _ _⟩

/-- an offset's text -/
def Of (c : Int) (h m : Nat) : List Int := c :: (dgt 2 h ++ [58] ++ dgt 2 m)
theorem Of_len (c : Int) (h m : Nat) : (Of c h m).length = 6 := by simp [Of, dgt_length]
theorem Of_byte {c : Int} (hc : c = 43 ∨ c = 45) (h m : Nat) : ∀ x ∈ Of c h m, 0 ≤ x ∧ x < 256 := by
  intro x hx
  simp only [Of, List.mem_cons, List.mem_append, List.mem_singleton, List.not_mem_nil, or_false] at hx
  rcases hx with h | (h | h) | h
  · omega
  · have := dgt_dig _ _ _ h; omega
  · omega
  · have := dgt_dig _ _ _ h; omega

set_option maxRecDepth 100000 in
set_option maxHeartbeats 800000 in
theorem po_s (c : Int) (hc : c = 43 ∨ c = 45) (h m : Nat) (w : World) (hh : h ≤ 14) (hm : m ≤ 59) :
    Calls Try.prog 29 #[.string (strOfNums (Of c h m))] w fun e w' => e = .returned (.tuple #[.int .i64 ((if c = 45 then -1 else 1) * (60 * (h : Int) + m)), .bool true]) ∧ Below w.heap.size w w' := by
  obtain ⟨s, hs⟩ : ∃ s, s = strOfNums (Of c h m) := ⟨_, rfl⟩
  have hsz : s.size = 6 := by rw [hs, strOfNums_size, Of_len]
  have h0 : (s[0].toNat : Int) = c := by subst hs; rw [son_val _ (Of_byte hc h m) 0 (by omega)]; rfl
  have h3 : (s[3].toNat : Int) = 58 := by
    subst hs
    rw [son_val _ (Of_byte hc h m) 3 (by omega)]
    simp [Of, dgt]
  have hx1 : s.extract 1 3 = strOfNums (dgt 2 h) := by
    rw [hs, son_extract]
    congr 1
  have hx2 : s.extract 4 6 = strOfNums (dgt 2 m) := by
    rw [hs, son_extract]
    congr 1
  have hne : (s.toList == [90]) = false := by
    rw [Lib.toList_data, beq_eq_false_iff_ne]
    intro e
    have := congrArg List.length e
    simp [hsz] at this
  have D1 := hidd (dig_dgt 2 h 2 rfl (by omega) (pow2 (by omega)))
  have D2 := hidd (dig_dgt 2 m 2 rfl (by omega) (pow2 (by omega)))
  rw [← hx1] at D1
  rw [← hx2] at D2
  rw [← hs]
  clear hs hx1 hx2
  rcases hc with rfl | rfl
  all_goals
    go_enter Try.func29, Try.ntmps29
    go_wp2_with fail
    refine (D1.out _).mono ?_
    rintro e w1 ⟨rfl, hb1⟩
    have B1 := hidd hb1
    clear hb1
    go_wp2_with fail
    refine (D2.out _).mono ?_
    rintro e w2 ⟨rfl, hb2⟩
    have B2 := hidd (B1.out.trans (hb2.mono B1.out.size))
    clear hb2 B1
    go_wp2_with fail
    go_ret2
    exact ⟨by simp; try omega, B2.out⟩

end Go.Proofs.Qxb6600803a
