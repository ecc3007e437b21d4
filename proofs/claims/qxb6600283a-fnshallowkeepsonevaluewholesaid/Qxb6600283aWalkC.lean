import Derived.Test.Qxb6600283aWalkB
namespace Go.Proofs.Qxb6600283a
open Go.RowKit Js
set_option linter.unusedVariables false
set_option linter.unusedSimpArgs false

/-- the tests of a number's parts, as one Boolean each -/
def dotB (t : Nat → Int) (n j : Nat) : Bool := decide (j < n) && (t j == 46)
def expB (t : Nat → Int) (n j : Nat) : Bool := decide (j < n) && (t j == 101 || t j == 69)
def sgnB (t : Nat → Int) (n j : Nat) : Bool := decide (j < n) && (t j == 43 || t j == 45)
theorem dotB_T {t : Nat → Int} {n j : Nat} (h : dotB t n j = true) : j < n ∧ t j = 46 := by simpa [dotB] using h
theorem expB_T {t : Nat → Int} {n j : Nat} (h : expB t n j = true) : j < n ∧ (t j = 101 ∨ t j = 69) := by simpa [expB] using h
theorem sgnB_T {t : Nat → Int} {n j : Nat} (h : sgnB t n j = true) : j < n ∧ (t j = 43 ∨ t j = 45) := by simpa [sgnB] using h
theorem pf_F {t : Nat → Int} {n j : Nat} (h : dotB t n j = false) : pf (S t n j) = some (S t n j) := by
  by_cases hl : j < n
  · exact pf_no hl (by simpa [dotB, hl] using h)
  · exact pf_stop hl
theorem pe_F {t : Nat → Int} {n j : Nat} (h : expB t n j = false) : pe (S t n j) = some (S t n j) := by
  by_cases hl : j < n
  · exact pe_no hl (by simpa [expB, hl] using h)
  · exact pe_stop hl
theorem sgn_F {t : Nat → Int} {n j : Nat} (h : sgnB t n j = false) : sgn (S t n j) = S t n j := by
  by_cases hl : j < n
  · exact sgn_no hl (by simpa [sgnB, hl] using h)
  · exact sgn_stop hl

set_option maxRecDepth 100000 in
set_option maxHeartbeats 1600000 in
theorem pn_any (b off n cap : Nat) (t : Nat → Int) (i : Nat) (w : World) (hn : n ≤ 1048576) (hi : i < n) (hc : Txt w b off n t) :
    Calls Try.prog 33 #[.slice (some ⟨b, off, none⟩) n cap, .int .i64 i] w fun e w' => ∃ x : Int, e = .returned (.int .i64 x) ∧ Res t n i (pn (S t n i)) x ∧ w' = w := by
  have hci := hc i hi
  go_enter Try.func33, Try.ntmps33
  go_upto_if 13 with fail
  go_cut [5] (fun s5 wx => (∃ j : Nat, s5 = .int .i64 j ∧ i ≤ j ∧ j ≤ n ∧ pm (S t n i) = S t n j) ∧ wx = w)
  case first =>
    go_wp2_with fail
    · go_meet
      case rel => exact ⟨⟨i + 1, by go_num, by omega, by omega, pm_yes hi (eqT ‹_›)⟩, rfl⟩
    · go_meet
      case rel => exact ⟨⟨i, rfl, by omega, by omega, pm_no hi (eqF ‹_›)⟩, rfl⟩
  case rest =>
    obtain ⟨⟨j, rfl, hj1, hj2, hpm⟩, rfl⟩ := hcut
    have HA : Hid (pm (S t n i) = S t n j) := hpm
    clear hpm
    by_cases hlt : j < n
    · have hcj := hc j hlt
      go_upto_if 24 with fail
      go_cut [5] (fun s5 wx => (∃ j : Nat, s5 = .int .i64 j ∧ i < j ∧ j ≤ n ∧ pint (pm (S t n i)) = some (S t n j)) ∧ wx = wc)
      case first =>
        cases hd : isDg (t j)
        · have hd' : ¬ t j = 48 := by intro h; rw [h] at hd; simp [isDg] at hd
          go_wp2_with (go_at_call 38; refine (isDg_any _ _).mono ?_; rintro e w' ⟨rfl, rfl⟩)
          go_ret
          exact ⟨_, rfl, .inl ⟨by rw [pn, HA.out, pint_no hlt hd' hd]; rfl, rfl⟩, rfl⟩
        · go_wp2_with (first | (go_at_call 38; refine (isDg_any _ _).mono ?_; rintro e w' ⟨rfl, rfl⟩) | (go_at_call 39; refine (dg_any b off n cap t _ j rfl _ hn (by omega) hc).mono ?_; rintro e w' ⟨⟨k, rfl, hk1, hk2, hk3⟩, rfl⟩))
          · go_meet
            case rel => exact ⟨⟨j + 1, by go_num, by omega, by omega, by rw [HA.out, pint_zero hlt (eqT ‹_›)]⟩, rfl⟩
          · have hne : ¬ t j = 48 := eqF ‹_›
            have hjk : j < k := by
              rcases Nat.lt_or_eq_of_le hk1 with h | h
              · exact h
              · have h2 := dgs_no hk3 h
                rw [S_cons hlt, dgs, if_pos hd] at h2
                simp at h2
            go_meet
            case rel => exact ⟨⟨k, rfl, by omega, by omega, by rw [HA.out, pint_dg hlt hne hd, hk3]⟩, rfl⟩
      case rest =>
        obtain ⟨⟨j1, rfl, hj11, hj12, hpi⟩, rfl⟩ := hcut
        have HB : Hid (pint (pm (S t n i)) = some (S t n j1)) := hpi
        clear hpi HA hcj
        clear hlt hci
        go_upto_region 11 with fail
        go_cut [45] (fun s45 wx => s45 = .bool (dotB t n j1) ∧ wx = wc)
        case first =>
          by_cases hl : j1 < n
          · have hc1 := hc j1 hl
            go_wp2_with fail
            go_meet
            case rel => exact ⟨by simp [dotB, hl], rfl⟩
          · go_wp2_with fail
            go_meet
            case rel => exact ⟨by simp [dotB, hl], rfl⟩
        case rest =>
          obtain ⟨rfl, rfl⟩ := hcut
          go_upto_if 45 with fail
          go_cut [5] (fun s5 wx => (∃ j : Nat, s5 = .int .i64 j ∧ i < j ∧ j ≤ n ∧ (pint (pm (S t n i))).bind pf = some (S t n j)) ∧ wx = wc)
          case first =>
            cases hd : dotB t n j1
            · go_wp2_with fail
              go_meet
              case rel => exact ⟨⟨j1, rfl, by omega, by omega, by rw [HB.out]; exact pf_F hd⟩, rfl⟩
            · have hd' := dotB_T hd
              have hl := hd'.1
              have H46 : Hid (t j1 = 46) := hd'.2
              clear hd'
              go_wp2_with (go_at_call 39; refine (dg_any b off n cap t _ (j1 + 1) (by omega) _ hn (by omega) hc).mono ?_; rintro e w' ⟨⟨k, rfl, hk1, hk2, hk3⟩, rfl⟩)
              · go_ret
                exact ⟨_, rfl, .inl ⟨by rw [pn, HB.out, Option.bind_some, pf_dot hl H46.out, dgs_no hk3 (by have := eqT ‹_›; omega)]; rfl, rfl⟩, rfl⟩
              · have hne := eqF ‹((k : Int) == ↑j1 + 1) = false›
                go_meet
                case rel => exact ⟨⟨k, rfl, by omega, by omega, by rw [HB.out, Option.bind_some, pf_dot hl H46.out, dgs_yes hk3 (by omega) hk2]⟩, rfl⟩
          case rest =>
            obtain ⟨⟨j2, rfl, hj21, hj22, hpi⟩, rfl⟩ := hcut
            have HC : Hid ((pint (pm (S t n i))).bind pf = some (S t n j2)) := hpi
            clear hpi HB
            have hpn : pn (S t n i) = pe (S t n j2) := by
              have h := HC.out
              rw [pn]
              cases h1 : pint (pm (S t n i)) with
              | none => rw [h1] at h; simp at h
              | some l1 => rw [h1] at h; simp only [Option.bind_some] at h ⊢; rw [h]; rfl
            have HD : Hid (pn (S t n i) = pe (S t n j2)) := hpn
            clear hpn HC
            go_upto_region 16 with fail
            go_cut [72] (fun s72 wx => s72 = .bool (expB t n j2) ∧ wx = wc)
            case first =>
              by_cases hl : j2 < n
              · have hc1 := hc j2 hl
                go_wp2_with fail
                all_goals
                  go_meet
                  case rel => exact ⟨by simp [expB, hl, *], rfl⟩
              · go_wp2_with fail
                go_meet
                case rel => exact ⟨by simp [expB, hl], rfl⟩
            case rest =>
              obtain ⟨rfl, rfl⟩ := hcut
              cases hd : expB t n j2
              · go_wp2_with fail
                go_ret
                exact ⟨_, rfl, .inr ⟨j2, by rw [HD.out, pe_F hd], by omega, by omega, rfl⟩, rfl⟩
              · have hd' := expB_T hd
                have hl := hd'.1
                have HE : Hid (t j2 = 101 ∨ t j2 = 69) := hd'.2
                clear hd'
                go_upto_region 18 with fail
                go_cut [92] (fun s92 wx => s92 = .bool (sgnB t n (j2 + 1)) ∧ wx = wc)
                case first =>
                  by_cases hl : j2 + 1 < n
                  · have hc1 := hc (j2 + 1) hl
                    go_wp2_with fail
                    all_goals
                      go_meet
                      case rel => exact ⟨by simp [sgnB, hl, *], rfl⟩
                  · go_wp2_with fail
                    go_meet
                    case rel => exact ⟨by simp [sgnB, hl], rfl⟩
                case rest =>
                  obtain ⟨rfl, rfl⟩ := hcut
                  cases hd : sgnB t n (j2 + 1)
                  · go_wp2_with (go_at_call 39; refine (dg_any b off n cap t _ (j2 + 1) (by omega) _ hn (by omega) hc).mono ?_; rintro e w' ⟨⟨k, rfl, hk1, hk2, hk3⟩, rfl⟩)
                    · go_ret
                      exact ⟨_, rfl, .inl ⟨by rw [HD.out, pe_e hl HE.out, sgn_F hd, dgs_no hk3 (by have := eqT ‹_›; omega)], rfl⟩, rfl⟩
                    · have hne := eqF ‹((k : Int) == ↑j2 + 1) = false›
                      go_ret
                      exact ⟨_, rfl, .inr ⟨k, by rw [HD.out, pe_e hl HE.out, sgn_F hd, dgs_yes hk3 (by omega) hk2], by omega, by omega, rfl⟩, rfl⟩
                  · have hd' := sgnB_T hd
                    have hl2 := hd'.1
                    have HF : Hid (t (j2 + 1) = 43 ∨ t (j2 + 1) = 45) := hd'.2
                    clear hd'
                    go_wp2_with (go_at_call 39; refine (dg_any b off n cap t _ (j2 + 2) (by omega) _ hn (by omega) hc).mono ?_; rintro e w' ⟨⟨k, rfl, hk1, hk2, hk3⟩, rfl⟩)
                    · go_ret
                      exact ⟨_, rfl, .inl ⟨by rw [HD.out, pe_e hl HE.out, sgn_yes hl2 HF.out, dgs_no hk3 (by have := eqT ‹_›; omega)], rfl⟩, rfl⟩
                    · have hne := eqF ‹((k : Int) == ↑j2 + 1 + 1) = false›
                      go_ret
                      exact ⟨_, rfl, .inr ⟨k, by rw [HD.out, pe_e hl HE.out, sgn_yes hl2 HF.out, dgs_yes hk3 (by omega) hk2], by omega, by omega, rfl⟩, rfl⟩
    · go_wp2_with fail
      go_ret
      exact ⟨_, rfl, .inl ⟨by rw [pn, HA.out, pint_stop hlt]; rfl, rfl⟩, rfl⟩

end Go.Proofs.Qxb6600283a
