import Derived.Test.Qxb6600283aRows
import Derived.Test.Qxb6600283aPlain
import Derived.WalkKit
import Derived.ProofKit
import Derived.Below
import Derived.WalkSpells
namespace Go.Proofs.Qxb6600283a
open Go.RowKit Js
set_option linter.unusedVariables false
set_option linter.unusedSimpArgs false

theorem ret_bool {a b : Bool} (h : a = b) : Ending.returned (.bool a) = .returned (.bool b) := by rw [h]
theorem ret_int {k : IntKind} {a b : Int} (h : a = b) : Ending.returned (.int k a) = .returned (.int k b) := by rw [h]

/-- the bytes of a slice: cell i holds t i -/
def Txt (w : World) (b off n : Nat) (t : Nat → Int) : Prop := ∀ i, i < n → w.cell? ⟨b, off + i, none⟩ = some (.int .u8 (t i))

theorem isDg_any (c : Int) (w : World) :
    Calls Try.prog 38 #[.int .u8 c] w fun e w' => e = .returned (.bool (isDg c)) ∧ w' = w := by
  by_cases h1 : 48 ≤ c
  all_goals
    go_enter Try.func38, Try.ntmps38
    go_wp2
    go_ret
    exact ⟨ret_bool (by simp [isDg]; try omega), rfl⟩

set_option maxHeartbeats 400000 in
theorem isHx_any (c : Int) (w : World) :
    Calls Try.prog 36 #[.int .u8 c] w fun e w' => e = .returned (.bool (isHx c)) ∧ w' = w := by
  go_enter Try.func36, Try.ntmps36
  go_wp2_with (go_at_call 38; refine (isDg_any _ _).mono ?_; rintro e w' ⟨rfl, rfl⟩)
  all_goals
    go_ret
    exact ⟨ret_bool (by rw [Bool.eq_iff_iff]; simp [isHx, isDg] at *; omega), rfl⟩

set_option maxHeartbeats 400000 in
theorem isDl_any (c : Int) (w : World) :
    Calls Try.prog 25 #[.int .u8 c] w fun e w' => e = .returned (.bool (isDl c)) ∧ w' = w := by
  go_enter Try.func25, Try.ntmps25
  go_wp2
  all_goals
    go_ret
    exact ⟨ret_bool (by simp [isDl, *]), rfl⟩

set_option maxHeartbeats 400000 in
theorem sp_any (b off n cap : Nat) (t : Nat → Int) (x : Int) (j : Nat) (hx : x = j) (w : World) (hn : n ≤ 1048576) (hj : j ≤ n) (hc : Txt w b off n t) :
    Calls Try.prog 37 #[.slice (some ⟨b, off, none⟩) n cap, .int .i64 x] w fun e w' => (∃ k : Nat, e = .returned (.int .i64 k) ∧ j ≤ k ∧ k ≤ n ∧ sp (S t n j) = S t n k) ∧ w' = w := by
  subst hx
  go_enter Try.func37, Try.ntmps37
  go_wp2
  go_loop [1] (fun v => ∃ k : Nat, j ≤ k ∧ k ≤ n ∧ v = .int .i64 k ∧ (S t n k).dropWhile isSp = sp (S t n j)) (fun v => n - (intOf v).toNat)
  case atStart => exact ⟨j, Nat.le_refl _, hj, rfl, rfl⟩
  case round =>
    obtain ⟨k, hk1, hk2, rfl, hs⟩ := hrel
    have HS : Hid ((S t n k).dropWhile isSp = sp (S t n j)) := hs
    clear hs
    by_cases hlt : k < n
    · have hcell := hc k hlt
      go_wp2
      all_goals first
        | (go_ret; exact ⟨⟨k, rfl, hk1, hk2, by rw [← HS.out, dropWhile_no hlt (by simp [isSp, *])]⟩, rfl⟩)
        | (go_round
           case rel => exact ⟨k + 1, by omega, by omega, by go_num, by rw [← HS.out, dropWhile_yes hlt (by first | (simp [isSp, *]; done) | (simp [isSp] at *; omega))]⟩
           case measure => simp [intOf]; omega)
    · go_wp2
      go_ret
      exact ⟨⟨k, rfl, hk1, hk2, by rw [← HS.out, dropWhile_stop hlt]⟩, rfl⟩

set_option maxHeartbeats 400000 in
theorem dg_any (b off n cap : Nat) (t : Nat → Int) (x : Int) (j : Nat) (hx : x = j) (w : World) (hn : n ≤ 1048576) (hj : j ≤ n) (hc : Txt w b off n t) :
    Calls Try.prog 39 #[.slice (some ⟨b, off, none⟩) n cap, .int .i64 x] w fun e w' => (∃ k : Nat, e = .returned (.int .i64 k) ∧ j ≤ k ∧ k ≤ n ∧ (S t n j).dropWhile isDg = S t n k) ∧ w' = w := by
  subst hx
  go_enter Try.func39, Try.ntmps39
  go_wp2
  go_loop [1] (fun v => ∃ k : Nat, j ≤ k ∧ k ≤ n ∧ v = .int .i64 k ∧ (S t n k).dropWhile isDg = (S t n j).dropWhile isDg) (fun v => n - (intOf v).toNat)
  case atStart => exact ⟨j, Nat.le_refl _, hj, rfl, rfl⟩
  case round =>
    obtain ⟨k, hk1, hk2, rfl, hs⟩ := hrel
    have HS : Hid ((S t n k).dropWhile isDg = (S t n j).dropWhile isDg) := hs
    clear hs
    by_cases hlt : k < n
    · have hcell := hc k hlt
      cases hb : isDg (t k)
      · go_wp2_with (go_at_call 38; refine (isDg_any _ _).mono ?_; rintro e w' ⟨rfl, rfl⟩)
        go_ret
        exact ⟨⟨k, rfl, hk1, hk2, by rw [← HS.out, dropWhile_no hlt hb]⟩, rfl⟩
      · go_wp2_with (go_at_call 38; refine (isDg_any _ _).mono ?_; rintro e w' ⟨rfl, rfl⟩)
        go_round
        case rel => exact ⟨k + 1, by omega, by omega, by go_num, by rw [← HS.out, dropWhile_yes hlt hb]⟩
        case measure => simp [intOf]; omega
    · go_wp2
      go_ret
      exact ⟨⟨k, rfl, hk1, hk2, by rw [← HS.out, dropWhile_stop hlt]⟩, rfl⟩

end Go.Proofs.Qxb6600283a
