import Derived.Test.Qxb6600283aWalkB
namespace Go.Proofs.Qxb6600283a
open Go.RowKit Js
set_option linter.unusedVariables false
set_option linter.unusedSimpArgs false

set_option maxRecDepth 100000 in
set_option maxHeartbeats 1600000 in
theorem ps_any (b off n cap : Nat) (t : Nat → Int) (i : Nat) (w : World) (hn : n ≤ 1048576) (hi : i < n) (hc : Txt w b off n t) :
    Calls Try.prog 29 #[.slice (some ⟨b, off, none⟩) n cap, .int .i64 i] w fun e w' => ∃ x : Int, e = .returned (.int .i64 x) ∧ Res t n i (ps (S t n (i + 1)) 0) x ∧ w' = w := by
  go_enter Try.func29, Try.ntmps29
  go_wp2_with fail
  go_loop [5] (fun v => ∃ j : Nat, v = .int .i64 j ∧ i < j ∧ j ≤ n ∧ ps (S t n j) 0 = ps (S t n (i + 1)) 0) (fun v => n - (intOf v).toNat)
  case atStart => exact ⟨i + 1, by go_num, by omega, by omega, rfl⟩
  case round =>
    obtain ⟨j, rfl, hj1, hj2, hp⟩ := hrel
    have HP : Hid (ps (S t n j) 0 = ps (S t n (i + 1)) 0) := hp
    clear hp
    by_cases hlt : j < n
    · have hcj := hc j hlt
      by_cases h34 : t j = 34
      · have H := h34
        have h34' : (t j == 34) = true := by simp [h34]
        have HQ : Hid (t j = 34) := h34
        clear H h34
        go_wp2_with fail
        go_ret
        exact ⟨_, rfl, .inr ⟨j + 1, by rw [← HP.out, ps_quote hlt HQ.out], by omega, by omega, by omega⟩, rfl⟩
      · have h34' : (t j == 34) = false := by simp [h34]
        by_cases h92 : t j = 92
        · have h92' : (t j != 92) = false := by simp [h92]
          have hge : ¬ t j < 32 := by omega
          have HQ : Hid (t j = 92) := h92
          clear h34 h92
          have hp2 : ps (S t n (i + 1)) 0 = ps (S t n (j + 1)) 1 := by rw [← HP.out, ps_back hlt HQ.out]
          have HP2 : Hid (ps (S t n (i + 1)) 0 = ps (S t n (j + 1)) 1) := hp2
          clear hp2 HP
          by_cases hlt2 : j + 1 < n
          · have hcj2 := hc (j + 1) hlt2
            by_cases hu : t (j + 1) = 117
            · have hu' : (t (j + 1) == 117) = true := by simp [hu]
              have e1 : (t (j + 1) == 34) = false := by simp [hu]
              have e2 : (t (j + 1) == 92) = false := by simp [hu]
              have e3 : (t (j + 1) == 47) = false := by simp [hu]
              have e4 : (t (j + 1) == 98) = false := by simp [hu]
              have e5 : (t (j + 1) == 102) = false := by simp [hu]
              have e6 : (t (j + 1) == 110) = false := by simp [hu]
              have e7 : (t (j + 1) == 114) = false := by simp [hu]
              have e8 : (t (j + 1) == 116) = false := by simp [hu]
              have hp3 : ps (S t n (i + 1)) 0 = ps (S t n (j + 2)) (hs 0) := by rw [HP2.out, ps_u hlt2 hu]; rfl
              have HP3 : Hid (ps (S t n (i + 1)) 0 = ps (S t n (j + 2)) (hs 0)) := hp3
              clear hp3 HP2 hu
              by_cases hsix : n < j + 6
              · have hsix' : (n : Int) - j < 6 := by omega
                go_wp2_with fail
                go_ret
                exact ⟨_, rfl, .inl ⟨by rw [HP3.out, ps_short 4 0 (j + 2) rfl (by omega)], rfl⟩, rfl⟩
              · have hsix' : ¬ (n : Int) - j < 6 := by omega
                go_wp2_with fail
                go_loop [7] (fun v => ∃ m : Nat, m ≤ 4 ∧ v = .int .i64 (j + 2 + m : Nat) ∧ ps (S t n (j + 2 + m)) (hs m) = ps (S t n (i + 1)) 0) (fun v => j + 6 - (intOf v).toNat)
                case atStart => exact ⟨0, by omega, by go_num, HP3.out.symm⟩
                case round =>
                  obtain ⟨m, hm, rfl, hpm⟩ := hrel
                  have HM : Hid (ps (S t n (j + 2 + m)) (hs m) = ps (S t n (i + 1)) 0) := hpm
                  clear hpm
                  by_cases hm4 : m < 4
                  · have hcm := hc (j + 2 + m) (by omega)
                    have hmi : ((j + 2 + m : Nat) : Int) < (j : Int) + 6 := by omega
                    cases hx : isHx (t (j + 2 + m))
                    · go_wp2_with (go_at_call 36; refine (isHx_any _ _).mono ?_; rintro e w' ⟨rfl, rfl⟩)
                      go_ret
                      exact ⟨_, rfl, .inl ⟨by rw [← HM.out, ps_nohex (by omega) hm4 hx], rfl⟩, rfl⟩
                    · go_wp2_with (go_at_call 36; refine (isHx_any _ _).mono ?_; rintro e w' ⟨rfl, rfl⟩)
                      go_round
                      case rel => exact ⟨m + 1, by omega, by go_num, by rw [← HM.out, ps_hex (by omega) hm4 hx]; rfl⟩
                      case measure => simp [intOf]; omega
                  · have hmi : ¬ ((j + 2 + m : Nat) : Int) < (j : Int) + 6 := by omega
                    go_wp2_with fail
                    go_round
                    case rel => exact ⟨j + 6, by go_num, by omega, by omega, by
                      have h4 : m = 4 := by omega
                      have := HM.out
                      rw [h4] at this
                      exact this⟩
                    case measure => simp [intOf]; omega
            · have hu' : (t (j + 1) == 117) = false := by simp [hu]
              cases hes : isEs (t (j + 1))
              · have e1 : (t (j + 1) == 34) = false := by simp [isEs] at hes ⊢; omega
                have e2 : (t (j + 1) == 92) = false := by simp [isEs] at hes ⊢; omega
                have e3 : (t (j + 1) == 47) = false := by simp [isEs] at hes ⊢; omega
                have e4 : (t (j + 1) == 98) = false := by simp [isEs] at hes ⊢; omega
                have e5 : (t (j + 1) == 102) = false := by simp [isEs] at hes ⊢; omega
                have e6 : (t (j + 1) == 110) = false := by simp [isEs] at hes ⊢; omega
                have e7 : (t (j + 1) == 114) = false := by simp [isEs] at hes ⊢; omega
                have e8 : (t (j + 1) == 116) = false := by simp [isEs] at hes ⊢; omega
                go_wp2_with fail
                go_ret
                exact ⟨_, rfl, .inl ⟨by rw [HP2.out, ps_bad hlt2 hes hu], rfl⟩, rfl⟩
              · have HE : Hid (isEs (t (j + 1)) = true) := hes
                clear hes
                go_wp2_with fail
                all_goals first
                  | (go_round
                     case rel => exact ⟨j + 2, by go_num, by omega, by omega, by rw [HP2.out, ps_esc hlt2 HE.out]⟩
                     case measure => simp [intOf]; omega)
                  | (exfalso; have h := HE.out; simp [isEs, *] at h)
          · go_wp2_with fail
            go_ret
            exact ⟨_, rfl, .inl ⟨by rw [HP2.out, ps_stop hlt2], rfl⟩, rfl⟩
        · have h92' : (t j != 92) = true := by simp [h92]
          by_cases hlow : t j < 32
          · go_wp2_with fail
            go_ret
            exact ⟨_, rfl, .inl ⟨by rw [← HP.out, ps_low hlt h34 hlow], rfl⟩, rfl⟩
          · go_wp2_with fail
            go_round
            case rel => exact ⟨j + 1, by go_num, by omega, by omega, by rw [← HP.out, ps_plain hlt h34 (by omega) h92]⟩
            case measure => simp [intOf]; omega
    · go_wp2_with fail
      go_ret
      exact ⟨_, rfl, .inl ⟨by rw [← HP.out, ps_stop hlt], rfl⟩, rfl⟩

end Go.Proofs.Qxb6600283a
