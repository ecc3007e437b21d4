import Derived.Test.Qxb6600803aWalkT
namespace Go.Proofs.Qxb6600803a
open Go.RowKit Tm
set_option linter.unusedVariables false
set_option linter.unusedSimpArgs false

set_option maxRecDepth 100000 in
set_option maxHeartbeats 8000000 in
theorem dt_e1 (a0 a1 a2 a3 a4 a5 a6 a7 : Int) (a8 : Bool) (a9 a10 : Int) (w : World) (b0 : -9223372036854775808 ≤ a0 ∧ a0 ≤ 9223372036854775807) (b1 : -9223372036854775808 ≤ a1 ∧ a1 ≤ 9223372036854775807) (b2 : -9223372036854775808 ≤ a2 ∧ a2 ≤ 9223372036854775807) (b3 : -9223372036854775808 ≤ a3 ∧ a3 ≤ 9223372036854775807) (b4 : -9223372036854775808 ≤ a4 ∧ a4 ≤ 9223372036854775807) (b5 : -9223372036854775808 ≤ a5 ∧ a5 ≤ 9223372036854775807) (b6 : -9223372036854775808 ≤ a6 ∧ a6 ≤ 9223372036854775807) (b7 : -9223372036854775808 ≤ a7 ∧ a7 ≤ 9223372036854775807) (b9 : -9223372036854775808 ≤ a9 ∧ a9 ≤ 9223372036854775807) (b10 : -9223372036854775808 ≤ a10 ∧ a10 ≤ 9223372036854775807) :
    (Calls Try.prog 6 #[.int .i64 a0, .int .i64 a1, .int .i64 a2, .int .i64 a3, .int .i64 a4, .int .i64 a5, .int .i64 a6, .int .i64 a7, .bool a8, .int .i64 a9, .int .i64 a10] w fun e w' => e = .returned (.bool true) ∧ Below w.heap.size w w') ∨ ((1 ≤ a7 ∧ a7 ≤ 6) ∧ (0 ≤ a0 ∧ a0 ≤ 9999) ∧ (1 ≤ a1 ∧ a1 ≤ 12) ∧ (1 ≤ a2 ∧ a2 ≤ 31)) := by
  by_cases c0 : 1 ≤ a7
  rotate_left
  · left
    go_enter Try.func6, Try.ntmps6
    go_wp2_with fail
    go_ret
    exact ⟨rfl, Below.refl _ _⟩
  by_cases c1 : a7 ≤ 6
  rotate_left
  · left
    go_enter Try.func6, Try.ntmps6
    go_wp2_with fail
    go_ret
    exact ⟨rfl, Below.refl _ _⟩
  by_cases c2 : 0 ≤ a0
  rotate_left
  · left
    go_enter Try.func6, Try.ntmps6
    go_wp2_with fail
    go_ret
    exact ⟨rfl, Below.refl _ _⟩
  by_cases c3 : a0 ≤ 9999
  rotate_left
  · left
    go_enter Try.func6, Try.ntmps6
    go_wp2_with fail
    go_ret
    exact ⟨rfl, Below.refl _ _⟩
  by_cases c4 : 1 ≤ a1
  rotate_left
  · left
    go_enter Try.func6, Try.ntmps6
    go_wp2_with fail
    go_ret
    exact ⟨rfl, Below.refl _ _⟩
  by_cases c5 : a1 ≤ 12
  rotate_left
  · left
    go_enter Try.func6, Try.ntmps6
    go_wp2_with fail
    go_ret
    exact ⟨rfl, Below.refl _ _⟩
  by_cases c6 : 1 ≤ a2
  rotate_left
  · left
    go_enter Try.func6, Try.ntmps6
    go_wp2_with fail
    go_ret
    exact ⟨rfl, Below.refl _ _⟩
  by_cases c7 : a2 ≤ 31
  rotate_left
  · left
    go_enter Try.func6, Try.ntmps6
    go_wp2_with fail
    go_ret
    exact ⟨rfl, Below.refl _ _⟩
  exact .inr ⟨⟨c0, c1⟩, ⟨c2, c3⟩, ⟨c4, c5⟩, ⟨c6, c7⟩⟩

set_option maxRecDepth 100000 in
set_option maxHeartbeats 8000000 in
theorem dt_e2 (y mo d : Nat) (a3 a4 a5 a6 a7 : Int) (a8 : Bool) (a9 a10 : Int) (w : World) (b3 : -9223372036854775808 ≤ a3 ∧ a3 ≤ 9223372036854775807) (b4 : -9223372036854775808 ≤ a4 ∧ a4 ≤ 9223372036854775807) (b5 : -9223372036854775808 ≤ a5 ∧ a5 ≤ 9223372036854775807) (b6 : -9223372036854775808 ≤ a6 ∧ a6 ≤ 9223372036854775807) (b7 : -9223372036854775808 ≤ a7 ∧ a7 ≤ 9223372036854775807) (b9 : -9223372036854775808 ≤ a9 ∧ a9 ≤ 9223372036854775807) (b10 : -9223372036854775808 ≤ a10 ∧ a10 ≤ 9223372036854775807) (hy : y ≤ 9999) (hmo1 : 1 ≤ mo) (hmo2 : mo ≤ 12) (hd1 : 1 ≤ d) (hd2 : d ≤ 31) (hp1 : 1 ≤ a7) (hp2 : a7 ≤ 6) :
    (Calls Try.prog 6 #[.int .i64 y, .int .i64 mo, .int .i64 d, .int .i64 a3, .int .i64 a4, .int .i64 a5, .int .i64 a6, .int .i64 a7, .bool a8, .int .i64 a9, .int .i64 a10] w fun e w' => e = .returned (.bool true) ∧ Below w.heap.size w w') ∨ (decide (3 ≤ a7) = false ∨ (decide (3 ≤ a7) = true ∧ d ≤ dys y mo)) := by
  by_cases h3 : 3 ≤ a7
  · have q8 : decide (3 ≤ a7) = true := by simp <;> omega
    by_cases hdy : d ≤ dys y mo
    · exact .inr (.inr ⟨q8, hdy⟩)
    · left
      have hdd : decide (((dys y mo : Nat) : Int) < d) = true := by simp <;> omega
      have q0 : decide ((y : Int) < 0) = false := by simp <;> omega
      have q1 : decide ((9999 : Int) < y) = false := by simp <;> omega
      have q2 : decide ((mo : Int) < 1) = false := by simp <;> omega
      have q3 : decide ((12 : Int) < mo) = false := by simp <;> omega
      have q4 : decide ((d : Int) < 1) = false := by simp <;> omega
      have q5 : decide ((31 : Int) < d) = false := by simp <;> omega
      have q6 : decide (a7 < 1) = false := by simp <;> omega
      have q7 : decide (6 < a7) = false := by simp <;> omega
      go_enter Try.func6, Try.ntmps6
      go_wp2_with (go_at_call 15; refine (days15 y mo _ hy hmo1 hmo2).mono ?_; rintro e w0 ⟨rfl, hw0⟩; have hw0' := hw0.symm; subst hw0'; clear hw0)
      go_ret
      exact ⟨rfl, Below.refl _ _⟩
  · exact .inr (.inl (by simp <;> omega))

set_option maxRecDepth 100000 in
set_option maxHeartbeats 16000000 in
theorem dt_e3 (y mo d : Nat) (a3 a4 a5 a6 a7 : Int) (a8 : Bool) (a9 a10 : Int) (w : World) (b3 : -9223372036854775808 ≤ a3 ∧ a3 ≤ 9223372036854775807) (b4 : -9223372036854775808 ≤ a4 ∧ a4 ≤ 9223372036854775807) (b5 : -9223372036854775808 ≤ a5 ∧ a5 ≤ 9223372036854775807) (b6 : -9223372036854775808 ≤ a6 ∧ a6 ≤ 9223372036854775807) (b7 : -9223372036854775808 ≤ a7 ∧ a7 ≤ 9223372036854775807) (b9 : -9223372036854775808 ≤ a9 ∧ a9 ≤ 9223372036854775807) (b10 : -9223372036854775808 ≤ a10 ∧ a10 ≤ 9223372036854775807) (hy : y ≤ 9999) (hmo1 : 1 ≤ mo) (hmo2 : mo ≤ 12) (hd1 : 1 ≤ d) (hd2 : d ≤ 31) (hp1 : 1 ≤ a7) (hp2 : a7 ≤ 6) (hq : decide (3 ≤ a7) = false ∨ (decide (3 ≤ a7) = true ∧ d ≤ dys y mo)) :
    (Calls Try.prog 6 #[.int .i64 y, .int .i64 mo, .int .i64 d, .int .i64 a3, .int .i64 a4, .int .i64 a5, .int .i64 a6, .int .i64 a7, .bool a8, .int .i64 a9, .int .i64 a10] w fun e w' => e = .returned (.bool true) ∧ Below w.heap.size w w') ∨ ((0 ≤ a3 ∧ a3 ≤ 23) ∧ (0 ≤ a4 ∧ a4 ≤ 59) ∧ (0 ≤ a5 ∧ a5 ≤ 60) ∧ (0 ≤ a6 ∧ a6 ≤ 999999999) ∧ (0 ≤ a9 ∧ a9 ≤ 2) ∧ (-899 ≤ a10 ∧ a10 ≤ 899)) := by
  have q0 : decide ((y : Int) < 0) = false := by simp <;> omega
  have q1 : decide ((9999 : Int) < y) = false := by simp <;> omega
  have q2 : decide ((mo : Int) < 1) = false := by simp <;> omega
  have q3 : decide ((12 : Int) < mo) = false := by simp <;> omega
  have q4 : decide ((d : Int) < 1) = false := by simp <;> omega
  have q5 : decide ((31 : Int) < d) = false := by simp <;> omega
  have q6 : decide (a7 < 1) = false := by simp <;> omega
  have q7 : decide (6 < a7) = false := by simp <;> omega
  by_cases c0 : 0 ≤ a3
  rotate_left
  · left
    have v : decide (a3 < 0) = true := by simp <;> omega
    rcases hq with q8 | ⟨q8, hdy⟩
    · go_enter Try.func6, Try.ntmps6
      go_wp2_with fail
      go_ret
      exact ⟨rfl, Below.refl _ _⟩
    · have hdd : decide (((dys y mo : Nat) : Int) < d) = false := by simp <;> omega
      go_enter Try.func6, Try.ntmps6
      go_wp2_with (go_at_call 15; refine (days15 y mo _ hy hmo1 hmo2).mono ?_; rintro e w0 ⟨rfl, hw0⟩; have hw0' := hw0.symm; subst hw0'; clear hw0)
      go_ret
      exact ⟨rfl, Below.refl _ _⟩
  have k0 : decide (a3 < 0) = false := by simp <;> omega
  by_cases c1 : a3 ≤ 23
  rotate_left
  · left
    have v : decide (23 < a3) = true := by simp <;> omega
    rcases hq with q8 | ⟨q8, hdy⟩
    · go_enter Try.func6, Try.ntmps6
      go_wp2_with fail
      go_ret
      exact ⟨rfl, Below.refl _ _⟩
    · have hdd : decide (((dys y mo : Nat) : Int) < d) = false := by simp <;> omega
      go_enter Try.func6, Try.ntmps6
      go_wp2_with (go_at_call 15; refine (days15 y mo _ hy hmo1 hmo2).mono ?_; rintro e w0 ⟨rfl, hw0⟩; have hw0' := hw0.symm; subst hw0'; clear hw0)
      go_ret
      exact ⟨rfl, Below.refl _ _⟩
  have k1 : decide (23 < a3) = false := by simp <;> omega
  by_cases c2 : 0 ≤ a4
  rotate_left
  · left
    have v : decide (a4 < 0) = true := by simp <;> omega
    rcases hq with q8 | ⟨q8, hdy⟩
    · go_enter Try.func6, Try.ntmps6
      go_wp2_with fail
      go_ret
      exact ⟨rfl, Below.refl _ _⟩
    · have hdd : decide (((dys y mo : Nat) : Int) < d) = false := by simp <;> omega
      go_enter Try.func6, Try.ntmps6
      go_wp2_with (go_at_call 15; refine (days15 y mo _ hy hmo1 hmo2).mono ?_; rintro e w0 ⟨rfl, hw0⟩; have hw0' := hw0.symm; subst hw0'; clear hw0)
      go_ret
      exact ⟨rfl, Below.refl _ _⟩
  have k2 : decide (a4 < 0) = false := by simp <;> omega
  by_cases c3 : a4 ≤ 59
  rotate_left
  · left
    have v : decide (59 < a4) = true := by simp <;> omega
    rcases hq with q8 | ⟨q8, hdy⟩
    · go_enter Try.func6, Try.ntmps6
      go_wp2_with fail
      go_ret
      exact ⟨rfl, Below.refl _ _⟩
    · have hdd : decide (((dys y mo : Nat) : Int) < d) = false := by simp <;> omega
      go_enter Try.func6, Try.ntmps6
      go_wp2_with (go_at_call 15; refine (days15 y mo _ hy hmo1 hmo2).mono ?_; rintro e w0 ⟨rfl, hw0⟩; have hw0' := hw0.symm; subst hw0'; clear hw0)
      go_ret
      exact ⟨rfl, Below.refl _ _⟩
  have k3 : decide (59 < a4) = false := by simp <;> omega
  by_cases c4 : 0 ≤ a5
  rotate_left
  · left
    have v : decide (a5 < 0) = true := by simp <;> omega
    rcases hq with q8 | ⟨q8, hdy⟩
    · go_enter Try.func6, Try.ntmps6
      go_wp2_with fail
      go_ret
      exact ⟨rfl, Below.refl _ _⟩
    · have hdd : decide (((dys y mo : Nat) : Int) < d) = false := by simp <;> omega
      go_enter Try.func6, Try.ntmps6
      go_wp2_with (go_at_call 15; refine (days15 y mo _ hy hmo1 hmo2).mono ?_; rintro e w0 ⟨rfl, hw0⟩; have hw0' := hw0.symm; subst hw0'; clear hw0)
      go_ret
      exact ⟨rfl, Below.refl _ _⟩
  have k4 : decide (a5 < 0) = false := by simp <;> omega
  by_cases c5 : a5 ≤ 60
  rotate_left
  · left
    have v : decide (60 < a5) = true := by simp <;> omega
    rcases hq with q8 | ⟨q8, hdy⟩
    · go_enter Try.func6, Try.ntmps6
      go_wp2_with fail
      go_ret
      exact ⟨rfl, Below.refl _ _⟩
    · have hdd : decide (((dys y mo : Nat) : Int) < d) = false := by simp <;> omega
      go_enter Try.func6, Try.ntmps6
      go_wp2_with (go_at_call 15; refine (days15 y mo _ hy hmo1 hmo2).mono ?_; rintro e w0 ⟨rfl, hw0⟩; have hw0' := hw0.symm; subst hw0'; clear hw0)
      go_ret
      exact ⟨rfl, Below.refl _ _⟩
  have k5 : decide (60 < a5) = false := by simp <;> omega
  by_cases c6 : 0 ≤ a6
  rotate_left
  · left
    have v : decide (a6 < 0) = true := by simp <;> omega
    rcases hq with q8 | ⟨q8, hdy⟩
    · go_enter Try.func6, Try.ntmps6
      go_wp2_with fail
      go_ret
      exact ⟨rfl, Below.refl _ _⟩
    · have hdd : decide (((dys y mo : Nat) : Int) < d) = false := by simp <;> omega
      go_enter Try.func6, Try.ntmps6
      go_wp2_with (go_at_call 15; refine (days15 y mo _ hy hmo1 hmo2).mono ?_; rintro e w0 ⟨rfl, hw0⟩; have hw0' := hw0.symm; subst hw0'; clear hw0)
      go_ret
      exact ⟨rfl, Below.refl _ _⟩
  have k6 : decide (a6 < 0) = false := by simp <;> omega
  by_cases c7 : a6 ≤ 999999999
  rotate_left
  · left
    have v : decide (999999999 < a6) = true := by simp <;> omega
    rcases hq with q8 | ⟨q8, hdy⟩
    · go_enter Try.func6, Try.ntmps6
      go_wp2_with fail
      go_ret
      exact ⟨rfl, Below.refl _ _⟩
    · have hdd : decide (((dys y mo : Nat) : Int) < d) = false := by simp <;> omega
      go_enter Try.func6, Try.ntmps6
      go_wp2_with (go_at_call 15; refine (days15 y mo _ hy hmo1 hmo2).mono ?_; rintro e w0 ⟨rfl, hw0⟩; have hw0' := hw0.symm; subst hw0'; clear hw0)
      go_ret
      exact ⟨rfl, Below.refl _ _⟩
  have k7 : decide (999999999 < a6) = false := by simp <;> omega
  by_cases c8 : 0 ≤ a9
  rotate_left
  · left
    have v : decide (a9 < 0) = true := by simp <;> omega
    rcases hq with q8 | ⟨q8, hdy⟩
    · go_enter Try.func6, Try.ntmps6
      go_wp2_with fail
      go_ret
      exact ⟨rfl, Below.refl _ _⟩
    · have hdd : decide (((dys y mo : Nat) : Int) < d) = false := by simp <;> omega
      go_enter Try.func6, Try.ntmps6
      go_wp2_with (go_at_call 15; refine (days15 y mo _ hy hmo1 hmo2).mono ?_; rintro e w0 ⟨rfl, hw0⟩; have hw0' := hw0.symm; subst hw0'; clear hw0)
      go_ret
      exact ⟨rfl, Below.refl _ _⟩
  have k8 : decide (a9 < 0) = false := by simp <;> omega
  by_cases c9 : a9 ≤ 2
  rotate_left
  · left
    have v : decide (2 < a9) = true := by simp <;> omega
    rcases hq with q8 | ⟨q8, hdy⟩
    · go_enter Try.func6, Try.ntmps6
      go_wp2_with fail
      go_ret
      exact ⟨rfl, Below.refl _ _⟩
    · have hdd : decide (((dys y mo : Nat) : Int) < d) = false := by simp <;> omega
      go_enter Try.func6, Try.ntmps6
      go_wp2_with (go_at_call 15; refine (days15 y mo _ hy hmo1 hmo2).mono ?_; rintro e w0 ⟨rfl, hw0⟩; have hw0' := hw0.symm; subst hw0'; clear hw0)
      go_ret
      exact ⟨rfl, Below.refl _ _⟩
  have k9 : decide (2 < a9) = false := by simp <;> omega
  by_cases c10 : -899 ≤ a10
  rotate_left
  · left
    have v : decide (a10 < -899) = true := by simp <;> omega
    rcases hq with q8 | ⟨q8, hdy⟩
    · go_enter Try.func6, Try.ntmps6
      go_wp2_with fail
      go_ret
      exact ⟨rfl, Below.refl _ _⟩
    · have hdd : decide (((dys y mo : Nat) : Int) < d) = false := by simp <;> omega
      go_enter Try.func6, Try.ntmps6
      go_wp2_with (go_at_call 15; refine (days15 y mo _ hy hmo1 hmo2).mono ?_; rintro e w0 ⟨rfl, hw0⟩; have hw0' := hw0.symm; subst hw0'; clear hw0)
      go_ret
      exact ⟨rfl, Below.refl _ _⟩
  have k10 : decide (a10 < -899) = false := by simp <;> omega
  by_cases c11 : a10 ≤ 899
  rotate_left
  · left
    have v : decide (899 < a10) = true := by simp <;> omega
    rcases hq with q8 | ⟨q8, hdy⟩
    · go_enter Try.func6, Try.ntmps6
      go_wp2_with fail
      go_ret
      exact ⟨rfl, Below.refl _ _⟩
    · have hdd : decide (((dys y mo : Nat) : Int) < d) = false := by simp <;> omega
      go_enter Try.func6, Try.ntmps6
      go_wp2_with (go_at_call 15; refine (days15 y mo _ hy hmo1 hmo2).mono ?_; rintro e w0 ⟨rfl, hw0⟩; have hw0' := hw0.symm; subst hw0'; clear hw0)
      go_ret
      exact ⟨rfl, Below.refl _ _⟩
  have k11 : decide (899 < a10) = false := by simp <;> omega
  exact .inr ⟨⟨c0, c1⟩, ⟨c2, c3⟩, ⟨c4, c5⟩, ⟨c6, c7⟩, ⟨c8, c9⟩, ⟨c10, c11⟩⟩

end Go.Proofs.Qxb6600803a
