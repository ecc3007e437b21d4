import Derived.Test.Qxb6600803aWalkK
namespace Go.Proofs.Qxb6600803a
open Go.RowKit Tm
set_option linter.unusedVariables false
set_option linter.unusedSimpArgs false

/-- a leap year -/
def lp (y : Nat) : Bool := decide (y % 400 = 0 ∨ (¬ y % 100 = 0 ∧ y % 4 = 0))
/-- the days of a month -/
def dys (y mo : Nat) : Nat := if mo = 2 then (if lp y then 29 else 28) else if mo = 4 ∨ mo = 6 ∨ mo = 9 ∨ mo = 11 then 30 else 31

set_option maxRecDepth 100000 in
theorem leap_any (y : Nat) (w : World) (hy : y ≤ 9999) :
    Calls Try.prog 23 #[.int .i64 y] w fun e w' => e = .returned (.bool (lp y)) ∧ w' = w := by
  by_cases h1 : y % 400 = 0
  · have e1 : ((y : Int) % 400 == 0) = true := by simp; omega
    go_enter Try.func23, Try.ntmps23
    go_wp2
    go_ret
    exact ⟨ret_bool (by simp [lp, h1]), rfl⟩
  · have e1 : ((y : Int) % 400 == 0) = false := by simp; omega
    by_cases h2 : y % 100 = 0
    · have e2 : ((y : Int) % 100 == 0) = true := by simp; omega
      go_enter Try.func23, Try.ntmps23
      go_wp2
      go_ret
      exact ⟨ret_bool (by simp [lp, h1, h2]), rfl⟩
    · have e2 : ((y : Int) % 100 == 0) = false := by simp; omega
      by_cases h3 : y % 4 = 0
      · have e3 : ((y : Int) % 4 == 0) = true := by simp; omega
        go_enter Try.func23, Try.ntmps23
        go_wp2
        go_ret
        exact ⟨ret_bool (by simp [lp, h1, h2, h3]; try omega), rfl⟩
      · have e3 : ((y : Int) % 4 == 0) = false := by simp; omega
        go_enter Try.func23, Try.ntmps23
        go_wp2
        go_ret
        exact ⟨ret_bool (by simp [lp, h1, h2, h3]; try omega), rfl⟩

set_option maxRecDepth 100000 in
set_option maxHeartbeats 800000 in
theorem days15 (y mo : Nat) (w : World) (hy : y ≤ 9999) (h1 : 1 ≤ mo) (h2 : mo ≤ 12) :
    Calls Try.prog 15 #[.int .i64 y, .int .i64 mo] w fun e w' => e = .returned (.int .i64 (dys y mo : Nat)) ∧ w' = w := by
  obtain rfl | rfl | rfl | rfl | rfl | rfl | rfl | rfl | rfl | rfl | rfl | rfl : mo = 2 ∨ mo = 1 ∨ mo = 3 ∨ mo = 4 ∨ mo = 5 ∨ mo = 6 ∨ mo = 7 ∨ mo = 8 ∨ mo = 9 ∨ mo = 10 ∨ mo = 11 ∨ mo = 12 := by omega
  · cases hl : lp y
    all_goals
      go_enter Try.func15, Try.ntmps15
      go_wp2_with fail
      refine (leap_any y _ hy).mono ?_
      rintro e w1 ⟨rfl, hw⟩
      have hw' := hw.symm
      subst hw'
      rw [hl]
      go_wp2_with fail
      go_ret
      exact ⟨ret_int (by simp [dys, hl]), rfl⟩
  all_goals
    go_enter Try.func15, Try.ntmps15
    go_wp2
    go_ret
    exact ⟨ret_int (by simp [dys]), rfl⟩

set_option maxRecDepth 100000 in
set_option maxHeartbeats 800000 in
theorem days27 (y mo : Nat) (w : World) (hy : y ≤ 9999) (h1 : 1 ≤ mo) (h2 : mo ≤ 12) :
    Calls Try.prog 27 #[.int .i64 y, .int .i64 mo] w fun e w' => e = .returned (.int .i64 (dys y mo : Nat)) ∧ w' = w := by
  obtain rfl | rfl | rfl | rfl | rfl | rfl | rfl | rfl | rfl | rfl | rfl | rfl : mo = 2 ∨ mo = 1 ∨ mo = 3 ∨ mo = 4 ∨ mo = 5 ∨ mo = 6 ∨ mo = 7 ∨ mo = 8 ∨ mo = 9 ∨ mo = 10 ∨ mo = 11 ∨ mo = 12 := by omega
  · by_cases k4 : y % 4 = 0
    · have e4 : ((y : Int) % 4 == 0) = true := by simp; omega
      by_cases k1 : y % 100 = 0
      · have e1 : ((y : Int) % 100 != 0) = false := by simp; omega
        by_cases k2 : y % 400 = 0
        · have e2 : ((y : Int) % 400 == 0) = true := by simp; omega
          go_enter Try.func27, Try.ntmps27
          go_wp2
          go_ret
          exact ⟨ret_int (by simp [dys, lp, k4, k1, k2]), rfl⟩
        · have e2 : ((y : Int) % 400 == 0) = false := by simp; omega
          go_enter Try.func27, Try.ntmps27
          go_wp2
          go_ret
          exact ⟨ret_int (by simp [dys, lp, k4, k1, k2]), rfl⟩
      · have e1 : ((y : Int) % 100 != 0) = true := by simp; omega
        go_enter Try.func27, Try.ntmps27
        go_wp2
        go_ret
        exact ⟨ret_int (by simp [dys, lp, k4, k1]), rfl⟩
    · have e4 : ((y : Int) % 4 == 0) = false := by simp; omega
      have k5 : ¬ y % 400 = 0 := by omega
      go_enter Try.func27, Try.ntmps27
      go_wp2
      go_ret
      exact ⟨ret_int (by simp [dys, lp, k4, k5]), rfl⟩
  all_goals
    go_enter Try.func27, Try.ntmps27
    go_wp2
    go_ret
    exact ⟨ret_int (by simp [dys]), rfl⟩

/-- bytes none of which begins a zone -/
def NZ (l : List Int) : Prop := ∀ x ∈ l, 0 ≤ x ∧ x < 256 ∧ x ≠ 90 ∧ x ≠ 43 ∧ x ≠ 45

set_option maxRecDepth 100000 in
set_option maxHeartbeats 800000 in
theorem off_none (l : List Int) (w : World) (hl : l.length ≤ 1000) (hz : NZ l) :
    Calls Try.prog 28 #[.string (strOfNums l)] w fun e w' => e = .returned (.int .i64 (-1)) ∧ w' = w := by
  obtain ⟨s, hs⟩ : ∃ s, s = strOfNums l := ⟨_, rfl⟩
  have hsz : s.size ≤ 1000 := by rw [hs, strOfNums_size]; exact hl
  have HV : Hid (∀ i (h : i < s.size), ((s[i].toNat : Int) == 90) = false ∧ ((s[i].toNat : Int) == 43) = false ∧ ((s[i].toNat : Int) == 45) = false) := by
    subst hs
    intro i h
    have h' : i < l.length := by rw [strOfNums_size] at h; exact h
    have := hz _ (List.getElem_mem h')
    rw [son_val l (fun x hx => ⟨(hz x hx).1, (hz x hx).2.1⟩) i h]
    simp
    omega
  rw [← hs]
  clear hs hz hl
  go_enter Try.func28, Try.ntmps28
  go_wp2_with fail
  go_loop [6] (fun v => ∃ k : Nat, v = .int .i64 k ∧ k ≤ s.size) (fun v => s.size - (intOf v).toNat)
  case atStart => exact ⟨0, rfl, by omega⟩
  case round =>
    obtain ⟨k, rfl, hk⟩ := hrel
    by_cases hlt : k < s.size
    · obtain ⟨e1, e2, e3⟩ := HV.out k hlt
      go_wp2_with fail
      go_round
      case rel => exact ⟨k + 1, by go_num, by omega⟩
      case measure => simp [intOf]; omega
    · go_wp2_with fail
      go_ret
      exact ⟨rfl, rfl⟩

set_option maxRecDepth 100000 in
set_option maxHeartbeats 800000 in
theorem off_some (A B : List Int) (c : Int) (w : World) (hl : A.length + B.length ≤ 1000) (hz : NZ A) (hc : c = 90 ∨ c = 43 ∨ c = 45) (hB : ∀ x ∈ B, 0 ≤ x ∧ x < 256) :
    Calls Try.prog 28 #[.string (strOfNums (A ++ (c :: B)))] w fun e w' => e = .returned (.int .i64 A.length) ∧ w' = w := by
  obtain ⟨s, hs⟩ : ∃ s, s = strOfNums (A ++ (c :: B)) := ⟨_, rfl⟩
  obtain ⟨n, hn⟩ : ∃ n, n = A.length := ⟨_, rfl⟩
  have hall : ∀ x ∈ A ++ (c :: B), 0 ≤ x ∧ x < 256 := by
    intro x hx
    rcases List.mem_append.1 hx with h | h
    · exact ⟨(hz x h).1, (hz x h).2.1⟩
    · rcases List.mem_cons.1 h with h | h
      · omega
      · exact hB x h
  have hsz : s.size ≤ 1001 := by rw [hs, strOfNums_size]; simp; omega
  have hns : n < s.size := by rw [hs, strOfNums_size]; simp; omega
  have HV : Hid (∀ i (h : i < s.size), i < n → ((s[i].toNat : Int) == 90) = false ∧ ((s[i].toNat : Int) == 43) = false ∧ ((s[i].toNat : Int) == 45) = false) := by
    subst hs hn
    intro i h hi
    have := hz _ (List.getElem_mem hi)
    rw [son_val _ hall i h, List.getElem_append_left hi]
    simp
    omega
  have HE : Hid ((s[n].toNat : Int) = c) := by
    subst hs hn
    show _ = _
    rw [son_val _ hall _ hns, List.getElem_append_right (Nat.le_refl _)]
    simp
  rw [← hs, ← hn]
  clear hs hn hz hl hB hall
  go_enter Try.func28, Try.ntmps28
  go_wp2_with fail
  go_loop [6] (fun v => ∃ k : Nat, v = .int .i64 k ∧ k ≤ n) (fun v => s.size - (intOf v).toNat)
  case atStart => exact ⟨0, rfl, by omega⟩
  case round =>
    obtain ⟨k, rfl, hk⟩ := hrel
    have hlt : k < s.size := by omega
    by_cases hkn : k < n
    · obtain ⟨e1, e2, e3⟩ := HV.out k hlt hkn
      go_wp2_with fail
      go_round
      case rel => exact ⟨k + 1, by go_num, by omega⟩
      case measure => simp [intOf]; omega
    · have hkn' : k = n := by omega
      subst hkn'
      have he := HE.out
      have h3 : ((s[k].toNat : Int) == 90) = true ∨ (((s[k].toNat : Int) == 90) = false ∧ ((s[k].toNat : Int) == 43) = true) ∨ (((s[k].toNat : Int) == 90) = false ∧ ((s[k].toNat : Int) == 43) = false ∧ ((s[k].toNat : Int) == 45) = true) := by
        rw [he]; simp; omega
      clear he HE hc HV
      rcases h3 with e1 | ⟨e1, e2⟩ | ⟨e1, e2, e3⟩
      all_goals
        go_wp2_with fail
        go_ret
        exact ⟨rfl, rfl⟩

end Go.Proofs.Qxb6600803a
