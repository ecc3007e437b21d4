import Derived.Test.Qxb6600283aWalkA
import Derived.Deep.QuietTactic
import Derived.BigQuiet
import Derived.Deep.DeepCutAuto
namespace Go.Proofs.Qxb6600283a
open Go.RowKit Js
set_option linter.unusedVariables false
set_option linter.unusedSimpArgs false

theorem eqT {a b : Int} (h : (a == b) = true) : a = b := by simpa using h
theorem eqF {a b : Int} (h : (a == b) = false) : ¬ a = b := by simpa using h
theorem neT {a b : Int} (h : (a != b) = true) : ¬ a = b := by simpa using h
theorem neF {a b : Int} (h : (a != b) = false) : a = b := by simpa using h
theorem orT {a b c : Int} (h : (a == b) = true ∨ (a == c) = true) : a = b ∨ a = c := by simpa using h

/-- a string's bytes as integers -/
def bl (s : ByteArray) : List Int := s.data.toList.map fun c => (c.toNat : Int)
theorem bl_length (s : ByteArray) : (bl s).length = s.size := by simp [bl]
theorem bl_drop (s : ByteArray) (k : Nat) (h : k < s.size) : (bl s).drop k = (s[k].toNat : Int) :: (bl s).drop (k + 1) := by
  rw [List.drop_eq_getElem_cons (by rw [bl_length]; exact h)]
  simp [bl]
  rfl

set_option maxHeartbeats 800000 in
theorem pw_any (b off n cap : Nat) (t : Nat → Int) (i : Nat) (s : ByteArray) (w : World) (hn : n ≤ 1048576) (hi : i < n) (hs0 : 0 < s.size) (hs : s.size ≤ 100) (hc : Txt w b off n t) :
    Calls Try.prog 32 #[.slice (some ⟨b, off, none⟩) n cap, .int .i64 i, .string s] w fun e w' => ∃ x : Int, e = .returned (.int .i64 x) ∧ Res t n i (pw (bl s) (S t n i)) x ∧ ∃ q, w' = w.drewN q := by
  by_cases hlen : n < i + s.size
  · have h1 : (n : Int) - i < s.size := by omega
    go_enter Try.func32, Try.ntmps32
    go_wp2
    go_ret
    exact ⟨-1, rfl, .inl ⟨pw_short _ _ (by rw [S_length, bl_length]; omega), rfl⟩, 0, rfl⟩
  · have h1 : ¬ (n : Int) - i < s.size := by omega
    go_enter Try.func32, Try.ntmps32
    go_wp2
    go_loopw [7] (fun v wr => ∃ k q : Nat, k ≤ s.size ∧ v = .int .i64 k ∧ wr = w.drewN q ∧ pw ((bl s).drop k) (S t n (i + k)) = pw (bl s) (S t n i)) (fun v _ => s.size - (intOf v).toNat)
    case atStart => exact ⟨0, 0, by omega, rfl, rfl, rfl⟩
    case round =>
      obtain ⟨k, q, hk, rfl, rfl, hp⟩ := hrel
      have HP : Hid (pw ((bl s).drop k) (S t n (i + k)) = pw (bl s) (S t n i)) := hp
      clear hp
      by_cases hlt : k < s.size
      · have hcell : w.cell? ⟨b, off + (i + k), none⟩ = some (.int .u8 (t (i + k))) := hc (i + k) (by omega)
        have hik : (i : Int) + k < n := by omega
        go_wp2_with fail
        go_quiet (fail)
        go_wp2
        · have hne : ¬ t (i + k) = (s[k].toNat : Int) := by simp at *; assumption
          go_ret
          exact ⟨-1, rfl, .inl ⟨by rw [← HP.out, bl_drop s k hlt, S_cons (by omega), pw, if_neg hne], rfl⟩, _, World.drewN_drewN _ _ _⟩
        · have heq : t (i + k) = (s[k].toNat : Int) := by simp at *; assumption
          go_roundw
          case rel => exact ⟨k + 1, _, by omega, by go_num, rfl, by rw [← HP.out, bl_drop s k hlt, S_cons (i := i + k) (by omega), pw, if_pos heq]; rfl⟩
          case measure => simp [intOf]; omega
      · go_wp2
        go_ret
        have hk' : k = s.size := by omega
        refine ⟨_, rfl, .inr ⟨i + s.size, ?_, by omega, by omega, by omega⟩, _, rfl⟩
        rw [← HP.out, hk', List.drop_of_length_le (by rw [bl_length]; omega)]
        rfl

end Go.Proofs.Qxb6600283a
