import Derived.Test.Qxb6600283aWalkE
namespace Go.Proofs.Qxb6600283a
open Go.RowKit Js
set_option linter.unusedVariables false
set_option linter.unusedSimpArgs false

set_option maxRecDepth 100000 in
set_option maxHeartbeats 1600000 in
theorem obj_any (b off n cap : Nat) (t : Nat → Int) (F : Nat) (H : ∀ g, g < F → ValC b off n cap t g) (i : Nat) (w : World) (hn : n ≤ 1048576) (hi : i < n) (hF : 2 * (n - i) ≤ F) (hc : Txt w b off n t) :
    Calls Try.prog 31 #[.slice (some ⟨b, off, none⟩) n cap, .int .i64 i] w fun e w' => ∃ x : Int, e = .returned (.int .i64 x) ∧ Res t n i (openA F 2 125 (S t n (i + 1))) x ∧ ∃ q, w' = w.drewN q := by
  go_enter Try.func31, Try.ntmps31
  go_wp2_with fail
  refine (sp_any b off n cap t _ (i + 1) (by omega) _ hn (by omega) hc).mono ?_
  rintro e w' ⟨⟨k, rfl, hk1, hk2, hk3⟩, rfl⟩
  by_cases hlt : k < n
  · have hck := hc k hlt
    by_cases h93 : t k = 125
    · have h93' : (t k == 125) = true := by simp [h93]
      have HQ : Hid (t k = 125) := h93
      clear h93
      go_wp2_with fail
      go_ret
      exact ⟨_, rfl, .inr ⟨k + 1, openA_close hk3 hlt HQ.out, by omega, by omega, by omega⟩, 0, rfl⟩
    · have h93' : (t k == 125) = false := by simp [h93]
      go_wp2_with fail
      go_loopw [5] (fun v wr => ∃ j g q : Nat, v = .int .i64 j ∧ k ≤ j ∧ j ≤ n ∧ 2 * (n - j) + 2 ≤ g ∧ g ≤ F ∧ P g 2 (S t n j) = openA F 2 125 (S t n (i + 1)) ∧ wr = w'.drewN q) (fun v _ => n - (intOf v).toNat)
      case atStart => exact ⟨k, F, 0, rfl, by omega, by omega, by omega, by omega, (openA_go hk3 hlt h93).symm, rfl⟩
      case round =>
        obtain ⟨j, g, q, rfl, hj1, hj2, hg1, hg2, hp, rfl⟩ := hrel
        have HP : Hid (P g 2 (S t n j) = openA F 2 125 (S t n (i + 1))) := hp
        clear hp
        clear hk3
        by_cases hjn : j < n
        · have hcj := hc j hjn
          by_cases h34 : t j = 34
          · have h34' : (t j != 34) = false := by simp [h34]
            have HT : Hid (t j = 34) := h34
            clear h34
            cases g with
            | zero => omega
            | succ g =>
              go_wp2_with fail
              refine (ps_any b off n cap t j _ hn hjn (by exact hc)).mono ?_
              rintro e w2 ⟨x, rfl, hr, rfl⟩
              rcases hr with ⟨ho, rfl⟩ | ⟨jn, ho, ha1, ha2, rfl⟩
              · go_wp2_with fail
                go_ret
                exact ⟨_, rfl, .inl ⟨by rw [← HP.out, P_two hjn HT.out, ho]; rfl, rfl⟩, _, rfl⟩
              · have HN : Hid (ps (S t n (j + 1)) 0 = some (S t n jn)) := ho
                clear ho
                go_wp2_with fail
                refine (sp_any b off n cap t _ jn rfl _ hn (by omega) (by exact hc)).mono ?_
                rintro e w3 ⟨⟨jc, rfl, hb1, hb2, hb3⟩, rfl⟩
                have HC : Hid (sp (S t n jn) = S t n jc) := hb3
                clear hb3
                by_cases hjc : jc < n
                · have hcc := hc jc hjc
                  by_cases h58 : t jc = 58
                  · have h58' : (t jc != 58) = false := by simp [h58]
                    have HK : Hid (t jc = 58) := h58
                    clear h58
                    go_wp2_with fail
                    refine (sp_any b off n cap t _ (jc + 1) (by omega) _ hn (by omega) (by exact hc)).mono ?_
                    rintro e w4 ⟨⟨jv, rfl, hd1, hd2, hd3⟩, rfl⟩
                    have HV : Hid (P (g + 1) 2 (S t n j) = (P g 0 (S t n jv)).bind (tailA g 2 125)) := by
                      show P (g + 1) 2 (S t n j) = _
                      rw [P_two hjn HT.out, HN.out, Option.bind_some, valA_go HC.out hjc HK.out hd3]
                    clear hd3
                    go_wp2_with fail
                    refine (H g (by omega) jv _ (by omega) (by omega) (by exact hc)).mono ?_
                    rintro e w5 ⟨x, rfl, hr, q2, rfl⟩
                    rcases hr with ⟨ho, rfl⟩ | ⟨j', ho, h1, h2, rfl⟩
                    · go_wp2_with fail
                      go_ret
                      exact ⟨_, rfl, .inl ⟨by rw [← HP.out, HV.out, ho]; rfl, rfl⟩, _, rfl⟩
                    · have HO : Hid (P (g + 1) 2 (S t n j) = tailA g 2 125 (S t n j')) := by
                        show P (g + 1) 2 (S t n j) = _
                        rw [HV.out, ho]; rfl
                      clear ho HV
                      go_wp2_with fail
                      refine (sp_any b off n cap t _ j' rfl _ hn (by omega) (by exact hc)).mono ?_
                      rintro e w6 ⟨⟨j2, rfl, h3, h4, h5⟩, rfl⟩
                      have HS : Hid (sp (S t n j') = S t n j2) := h5
                      clear h5
                      by_cases hj2 : j2 < n
                      · have hc2 := hc j2 hj2
                        by_cases h93 : t j2 = 125
                        · have h93' : (t j2 == 125) = true := by simp [h93]
                          have HQ : Hid (t j2 = 125) := h93
                          clear h93
                          go_wp2_with fail
                          go_ret
                          exact ⟨_, rfl, .inr ⟨j2 + 1, by rw [← HP.out, HO.out]; exact tailA_close HS.out hj2 HQ.out, by omega, by omega, by omega⟩, _, rfl⟩
                        · have h93' : (t j2 == 125) = false := by simp [h93]
                          by_cases h44 : t j2 = 44
                          · have h44' : (t j2 != 44) = false := by simp [h44]
                            have HQ : Hid (t j2 = 44) := h44
                            clear h44
                            go_wp2_with fail
                            refine (sp_any b off n cap t _ (j2 + 1) (by omega) _ hn (by omega) (by exact hc)).mono ?_
                            rintro e w7 ⟨⟨j3, rfl, h6, h7, h8⟩, rfl⟩
                            go_wp2_with fail
                            go_roundw
                            case rel => exact ⟨j3, g, _, rfl, by omega, by omega, by omega, by omega, by rw [← HP.out, HO.out]; exact (tailA_next HS.out hj2 h93 HQ.out h8).symm, rfl⟩
                            case measure => simp [intOf]; omega
                          · have h44' : (t j2 != 44) = true := by simp [h44]
                            go_wp2_with fail
                            go_ret
                            exact ⟨_, rfl, .inl ⟨by rw [← HP.out, HO.out]; exact tailA_bad HS.out hj2 h93 h44, rfl⟩, _, rfl⟩
                      · go_wp2_with fail
                        go_ret
                        exact ⟨_, rfl, .inl ⟨by rw [← HP.out, HO.out]; exact tailA_stop HS.out hj2, rfl⟩, _, rfl⟩
                  · have h58' : (t jc != 58) = true := by simp [h58]
                    go_wp2_with fail
                    go_ret
                    exact ⟨_, rfl, .inl ⟨by rw [← HP.out, P_two hjn HT.out, HN.out, Option.bind_some, valA_no HC.out hjc h58], rfl⟩, _, rfl⟩
                · go_wp2_with fail
                  go_ret
                  exact ⟨_, rfl, .inl ⟨by rw [← HP.out, P_two hjn HT.out, HN.out, Option.bind_some, valA_stop HC.out hjc], rfl⟩, _, rfl⟩
          · have h34' : (t j != 34) = true := by simp [h34]
            go_wp2_with fail
            go_ret
            exact ⟨_, rfl, .inl ⟨by rw [← HP.out, P_two_no hjn h34], rfl⟩, _, rfl⟩
        · go_wp2_with fail
          go_ret
          exact ⟨_, rfl, .inl ⟨by rw [← HP.out, P_two_stop hjn], rfl⟩, _, rfl⟩
  · have hjn : k = n := by omega
    subst hjn
    go_wp2_with fail
    refine wp_loop_rounds 1 ?_
    rw [rounds_succ]
    go_wp2_with fail
    go_ret
    exact ⟨_, rfl, .inl ⟨openA_stop hk3 hlt, rfl⟩, 0, rfl⟩

end Go.Proofs.Qxb6600283a
