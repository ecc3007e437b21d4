import Derived.Test.Qxb6600803aWalkA
namespace Go.Proofs.Qxb6600803a
open Go.RowKit Tm
set_option linter.unusedVariables false
set_option linter.unusedSimpArgs false

/-- the new array of three strings -/
def P3 (a b c : ByteArray) : Obj := .cells #[.string a, .string b, .string c] 47
/-- how a text falls into fields: its separators stand at p and q, as far as these lie inside -/
def Fl (s : ByteArray) (p q : Nat) (a b c : ByteArray) (n : Int) : Prop :=
  (s.size ≤ p ∧ a = s ∧ b = ⟨#[]⟩ ∧ c = ⟨#[]⟩ ∧ n = 1) ∨ (p < s.size ∧ s.size ≤ q ∧ a = s.extract 0 p ∧ b = s.extract (p + 1) s.size ∧ c = ⟨#[]⟩ ∧ n = 2) ∨
  (q < s.size ∧ a = s.extract 0 p ∧ b = s.extract (p + 1) q ∧ c = s.extract (q + 1) s.size ∧ n = 3)

set_option maxRecDepth 100000 in
set_option maxHeartbeats 1600000 in
theorem fields_any (s : ByteArray) (sep : Int) (p q : Nat) (a b c : ByteArray) (n : Int) (w : World) (hsz : s.size ≤ 10000) (hpq : p < q) (hse : ∀ i (h : i < s.size), (s[i].toNat : Int) = sep ↔ (i = p ∨ i = q)) (hfl : Fl s p q a b c n) :
    Calls Try.prog 24 #[.string s, .int .u8 sep] w fun e w' => e = .returned (.tuple #[.agg #[.string a, .string b, .string c], .int .i64 n, .bool true]) ∧ w' = w.alloc (P3 a b c) := by
  have HSE := hidd hse
  have HFL := hidd hfl
  clear hse hfl
  go_enter Try.func24, Try.ntmps24
  go_wp2_with fail
  go_loopw [5, 7, 11] (fun vn vf vi wr => ∃ k : Nat, k ≤ s.size ∧ vi = .int .i64 k ∧
      ((k ≤ p ∧ vn = .int .i64 0 ∧ vf = .int .i64 0 ∧ wr = w.alloc (.cells #[.string ⟨#[]⟩, .string ⟨#[]⟩, .string ⟨#[]⟩] 47)) ∨
       (p < k ∧ k ≤ q ∧ vn = .int .i64 1 ∧ vf = .int .i64 ((p : Int) + 1) ∧ wr = w.alloc (.cells #[.string (s.extract 0 p), .string ⟨#[]⟩, .string ⟨#[]⟩] 47)) ∨
       (q < k ∧ vn = .int .i64 2 ∧ vf = .int .i64 ((q : Int) + 1) ∧ wr = w.alloc (.cells #[.string (s.extract 0 p), .string (s.extract (p + 1) q), .string ⟨#[]⟩] 47)))) (fun _ _ vi _ => s.size - (intOf vi).toNat)
  case atStart => exact ⟨0, by omega, rfl, .inl ⟨by omega, rfl, rfl, rfl⟩⟩
  case round =>
    obtain ⟨k, hk, rfl, hph⟩ := hrel
    by_cases hlt : k < s.size
    · have hkse := HSE.out k hlt
      by_cases hks : k = p ∨ k = q
      · have e1 : ((s[k].toNat : Int) != sep) = false := by simp; exact hkse.2 hks
        clear hkse
        rcases hph with ⟨hp1, rfl, rfl, rfl⟩ | ⟨hp1, hp2, rfl, rfl, rfl⟩ | ⟨hp1, rfl, rfl, rfl⟩
        · have hkp : k = p := by omega
          subst hkp
          clear hks
          go_wp2_with fail
          go_roundw
          case rel => exact ⟨k + 1, by omega, by go_num, .inr (.inl ⟨by omega, by omega, rfl, by go_num, by first | rfl | trivial⟩)⟩
          case measure => simp [intOf]; omega
        · have hkq : k = q := by omega
          subst hkq
          clear hks
          go_wp2_with fail
          go_roundw
          case rel => exact ⟨k + 1, by omega, by go_num, .inr (.inr ⟨by omega, rfl, by go_num, by first | rfl | trivial⟩)⟩
          case measure => simp [intOf]; omega
        · omega
      · have e1 : ((s[k].toNat : Int) != sep) = true := by simp; exact fun h => hks (hkse.1 h)
        clear hkse
        have hks1 : ¬ k = p := fun h => hks (.inl h)
        have hks2 : ¬ k = q := fun h => hks (.inr h)
        clear hks
        rcases hph with ⟨hp1, rfl, rfl, rfl⟩ | ⟨hp1, hp2, rfl, rfl, rfl⟩ | ⟨hp1, rfl, rfl, rfl⟩
        · go_wp2_with fail
          go_roundw
          case rel => exact ⟨k + 1, by omega, by go_num, .inl ⟨by omega, rfl, rfl, by first | rfl | trivial⟩⟩
          case measure => simp [intOf]; omega
        · go_wp2_with fail
          go_roundw
          case rel => exact ⟨k + 1, by omega, by go_num, .inr (.inl ⟨by omega, by omega, rfl, rfl, by first | rfl | trivial⟩)⟩
          case measure => simp [intOf]; omega
        · go_wp2_with fail
          go_roundw
          case rel => exact ⟨k + 1, by omega, by go_num, .inr (.inr ⟨by omega, rfl, rfl, by first | rfl | trivial⟩)⟩
          case measure => simp [intOf]; omega
    · rcases hph with ⟨hp1, rfl, rfl, rfl⟩ | ⟨hp1, hp2, rfl, rfl, rfl⟩ | ⟨hp1, rfl, rfl, rfl⟩
      · obtain ⟨rfl, rfl, rfl, rfl⟩ : a = s ∧ b = ⟨#[]⟩ ∧ c = ⟨#[]⟩ ∧ n = 1 := by
          rcases HFL.out with h | h | h
          · exact h.2
          · omega
          · omega
        clear HFL
        go_wp2_with fail
        exact bodyPost_ret (v := .tuple #[.agg #[.string a, .string ⟨#[]⟩, .string ⟨#[]⟩], .int .i64 1, .bool true]) (by simp [results, Try.results24, go_sem]) rfl ⟨rfl, rfl⟩
      · obtain ⟨rfl, rfl, rfl, rfl⟩ : a = s.extract 0 p ∧ b = s.extract (p + 1) s.size ∧ c = ⟨#[]⟩ ∧ n = 2 := by
          rcases HFL.out with h | h | h
          · omega
          · exact h.2.2
          · omega
        clear HFL
        go_wp2_with fail
        exact bodyPost_ret (v := .tuple #[.agg #[.string (s.extract 0 p), .string (s.extract (p + 1) s.size), .string ⟨#[]⟩], .int .i64 2, .bool true]) (by simp [results, Try.results24, go_sem]) rfl ⟨rfl, rfl⟩
      · obtain ⟨rfl, rfl, rfl, rfl⟩ : a = s.extract 0 p ∧ b = s.extract (p + 1) q ∧ c = s.extract (q + 1) s.size ∧ n = 3 := by
          rcases HFL.out with h | h | h
          · omega
          · omega
          · exact h.2
        clear HFL
        go_wp2_with fail
        exact bodyPost_ret (v := .tuple #[.agg #[.string (s.extract 0 p), .string (s.extract (p + 1) q), .string (s.extract (q + 1) s.size)], .int .i64 3, .bool true]) (by simp [results, Try.results24, go_sem]) rfl ⟨rfl, rfl⟩

end Go.Proofs.Qxb6600803a
