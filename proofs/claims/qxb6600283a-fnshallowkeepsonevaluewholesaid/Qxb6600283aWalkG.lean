import Derived.Test.Qxb6600283aWalkF
namespace Go.Proofs.Qxb6600283a
open Go.RowKit Js
set_option linter.unusedVariables false
set_option linter.unusedSimpArgs false

theorem bl_true : bl ⟨#[116, 114, 117, 101]⟩ = [116, 114, 117, 101] := by decide
theorem bl_false : bl ⟨#[102, 97, 108, 115, 101]⟩ = [102, 97, 108, 115, 101] := by decide
theorem bl_null : bl ⟨#[110, 117, 108, 108]⟩ = [110, 117, 108, 108] := by decide

set_option maxRecDepth 100000 in
set_option maxHeartbeats 1600000 in
theorem val_any (b off n cap : Nat) (t : Nat → Int) (hn : n ≤ 1048576) : ∀ F, ValC b off n cap t F := by
  intro F
  induction F using Nat.strongRecOn with
  | _ F H =>
    intro i w hi hF hc
    by_cases hlt : i < n
    · have hci := hc i hlt
      cases F with
      | zero => omega
      | succ F =>
        have HZ : Hid (P (F + 1) 0 (S t n i) = _) := P_zero hlt F
        by_cases h34 : t i = 34
        · have e1 : (t i == 34) = true := by simp [h34]
          have HR : Hid (P (F + 1) 0 (S t n i) = ps (S t n (i + 1)) 0) := by have h := HZ.out; rw [h34] at h; exact h
          clear h34 HZ
          go_enter Try.func24, Try.ntmps24
          go_wp2_with fail
          refine (ps_any b off n cap t i _ hn hlt hc).mono ?_
          rintro e w2 ⟨x, rfl, hr, rfl⟩
          go_wp2_with fail
          go_ret
          exact ⟨x, rfl, by rw [HR.out]; exact hr, 0, rfl⟩
        · have e1 : (t i == 34) = false := by simp [h34]
          by_cases h91 : t i = 91
          · have e2 : (t i == 91) = true := by simp [h91]
            have HR : Hid (P (F + 1) 0 (S t n i) = openA F 1 93 (S t n (i + 1))) := by have h := HZ.out; rw [h91] at h; exact h
            clear h91 h34 HZ
            go_enter Try.func24, Try.ntmps24
            go_wp2_with fail
            refine (arr_any b off n cap t F (fun g hg => H g (by omega)) i _ hn hlt (by omega) hc).mono ?_
            rintro e w2 ⟨x, rfl, hr, q, rfl⟩
            go_wp2_with fail
            go_ret
            exact ⟨x, rfl, by rw [HR.out]; exact hr, q, rfl⟩
          · have e2 : (t i == 91) = false := by simp [h91]
            by_cases h123 : t i = 123
            · have e3 : (t i == 123) = true := by simp [h123]
              have HR : Hid (P (F + 1) 0 (S t n i) = openA F 2 125 (S t n (i + 1))) := by have h := HZ.out; rw [h123] at h; exact h
              clear h91 h34 h123 HZ
              go_enter Try.func24, Try.ntmps24
              go_wp2_with fail
              refine (obj_any b off n cap t F (fun g hg => H g (by omega)) i _ hn hlt (by omega) hc).mono ?_
              rintro e w2 ⟨x, rfl, hr, q, rfl⟩
              go_wp2_with fail
              go_ret
              exact ⟨x, rfl, by rw [HR.out]; exact hr, q, rfl⟩
            · have e3 : (t i == 123) = false := by simp [h123]
              by_cases h116 : t i = 116
              · have e4 : (t i == 116) = true := by simp [h116]
                have HR : Hid (P (F + 1) 0 (S t n i) = pw [116, 114, 117, 101] (S t n i)) := by have h := HZ.out; rw [h116] at h; exact h
                clear h91 h34 h123 h116 HZ
                go_enter Try.func24, Try.ntmps24
                go_wp2_with fail
                refine (pw_any b off n cap t i _ _ hn hlt (by decide) (by decide) hc).mono ?_
                rintro e w2 ⟨x, rfl, hr, q, rfl⟩
                rw [bl_true] at hr
                go_wp2_with fail
                go_ret
                exact ⟨x, rfl, by rw [HR.out]; exact hr, q, rfl⟩
              · have e4 : (t i == 116) = false := by simp [h116]
                by_cases h102 : t i = 102
                · have e5 : (t i == 102) = true := by simp [h102]
                  have HR : Hid (P (F + 1) 0 (S t n i) = pw [102, 97, 108, 115, 101] (S t n i)) := by have h := HZ.out; rw [h102] at h; exact h
                  clear h91 h34 h123 h116 h102 HZ
                  go_enter Try.func24, Try.ntmps24
                  go_wp2_with fail
                  refine (pw_any b off n cap t i _ _ hn hlt (by decide) (by decide) hc).mono ?_
                  rintro e w2 ⟨x, rfl, hr, q, rfl⟩
                  rw [bl_false] at hr
                  go_wp2_with fail
                  go_ret
                  exact ⟨x, rfl, by rw [HR.out]; exact hr, q, rfl⟩
                · have e5 : (t i == 102) = false := by simp [h102]
                  by_cases h110 : t i = 110
                  · have e6 : (t i == 110) = true := by simp [h110]
                    have HR : Hid (P (F + 1) 0 (S t n i) = pw [110, 117, 108, 108] (S t n i)) := by have h := HZ.out; rw [h110] at h; exact h
                    clear h91 h34 h123 h116 h102 h110 HZ
                    go_enter Try.func24, Try.ntmps24
                    go_wp2_with fail
                    refine (pw_any b off n cap t i _ _ hn hlt (by decide) (by decide) hc).mono ?_
                    rintro e w2 ⟨x, rfl, hr, q, rfl⟩
                    rw [bl_null] at hr
                    go_wp2_with fail
                    go_ret
                    exact ⟨x, rfl, by rw [HR.out]; exact hr, q, rfl⟩
                  · have e6 : (t i == 110) = false := by simp [h110]
                    have HR : Hid (P (F + 1) 0 (S t n i) = pn (S t n i)) := by have h := HZ.out; simp only [if_neg h34, if_neg h91, if_neg h123, if_neg h116, if_neg h102, if_neg h110] at h; exact h
                    clear h91 h34 h123 h116 h102 h110 HZ
                    go_enter Try.func24, Try.ntmps24
                    go_wp2_with fail
                    refine (pn_any b off n cap t i _ hn hlt hc).mono ?_
                    rintro e w2 ⟨x, rfl, hr, rfl⟩
                    go_wp2_with fail
                    go_ret
                    exact ⟨x, rfl, by rw [HR.out]; exact hr, 0, rfl⟩
    · go_enter Try.func24, Try.ntmps24
      go_wp2_with fail
      go_ret
      exact ⟨_, rfl, .inl ⟨P_zero_stop hlt F, rfl⟩, 0, rfl⟩

end Go.Proofs.Qxb6600283a
