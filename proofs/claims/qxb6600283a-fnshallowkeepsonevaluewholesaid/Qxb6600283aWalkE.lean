import Derived.Test.Qxb6600283aWalkC
import Derived.Test.Qxb6600283aWalkD
import Derived.Test.Qxb6600283aPlain2
namespace Go.Proofs.Qxb6600283a
open Go.RowKit Js
set_option linter.unusedVariables false
set_option linter.unusedSimpArgs false

theorem Txt.drewN {w : World} {b off n : Nat} {t : Nat → Int} (h : Txt w b off n t) (q : Nat) : Txt (w.drewN q) b off n t := h

/-- what a call of the parser for a value does, with fuel g -/
def ValC (b off n cap : Nat) (t : Nat → Int) (g : Nat) : Prop := ∀ (i : Nat) (w : World), i ≤ n → 2 * (n - i) + 1 ≤ g → Txt w b off n t →
    Calls Try.prog 24 #[.slice (some ⟨b, off, none⟩) n cap, .int .i64 i] w fun e w' => ∃ x : Int, e = .returned (.int .i64 x) ∧ Res t n i (P g 0 (S t n i)) x ∧ ∃ q, w' = w.drewN q

set_option maxRecDepth 100000 in
set_option maxHeartbeats 1600000 in
theorem arr_any (b off n cap : Nat) (t : Nat → Int) (F : Nat) (H : ∀ g, g < F → ValC b off n cap t g) (i : Nat) (w : World) (hn : n ≤ 1048576) (hi : i < n) (hF : 2 * (n - i) ≤ F) (hc : Txt w b off n t) :
    Calls Try.prog 30 #[.slice (some ⟨b, off, none⟩) n cap, .int .i64 i] w fun e w' => ∃ x : Int, e = .returned (.int .i64 x) ∧ Res t n i (openA F 1 93 (S t n (i + 1))) x ∧ ∃ q, w' = w.drewN q := by
  go_enter Try.func30, Try.ntmps30
  go_wp2_with fail
  refine (sp_any b off n cap t _ (i + 1) (by omega) _ hn (by omega) hc).mono ?_
  rintro e w' ⟨⟨k, rfl, hk1, hk2, hk3⟩, rfl⟩
  by_cases hlt : k < n
  · have hck := hc k hlt
    by_cases h93 : t k = 93
    · have h93' : (t k == 93) = true := by simp [h93]
      have HQ : Hid (t k = 93) := h93
      clear h93
      go_wp2_with fail
      go_ret
      exact ⟨_, rfl, .inr ⟨k + 1, openA_close hk3 hlt HQ.out, by omega, by omega, by omega⟩, 0, rfl⟩
    · have h93' : (t k == 93) = false := by simp [h93]
      go_wp2_with fail
      go_loopw [5] (fun v wr => ∃ j g q : Nat, v = .int .i64 j ∧ k ≤ j ∧ j ≤ n ∧ 2 * (n - j) + 2 ≤ g ∧ g ≤ F ∧ P g 1 (S t n j) = openA F 1 93 (S t n (i + 1)) ∧ wr = w'.drewN q) (fun v _ => n - (intOf v).toNat)
      case atStart => exact ⟨k, F, 0, rfl, by omega, by omega, by omega, by omega, (openA_go hk3 hlt h93).symm, rfl⟩
      case round =>
        obtain ⟨j, g, q, rfl, hj1, hj2, hg1, hg2, hp, rfl⟩ := hrel
        have HP : Hid (P g 1 (S t n j) = openA F 1 93 (S t n (i + 1))) := hp
        clear hp
        clear hk3
        by_cases hjn : j < n
        · cases g with
          | zero => omega
          | succ g =>
            go_wp2_with fail
            refine (H g (by omega) j _ (by omega) (by omega) (by exact hc)).mono ?_
            rintro e w2 ⟨x, rfl, hr, q2, rfl⟩
            rcases hr with ⟨ho, rfl⟩ | ⟨j', ho, h1, h2, rfl⟩
            · go_wp2_with fail
              go_ret
              exact ⟨_, rfl, .inl ⟨by rw [← HP.out, P_one, ho]; rfl, rfl⟩, _, rfl⟩
            · have HO : Hid (P g 0 (S t n j) = some (S t n j')) := ho
              clear ho
              go_wp2_with fail
              refine (sp_any b off n cap t _ j' rfl _ hn (by omega) (by exact hc)).mono ?_
              rintro e w3 ⟨⟨j2, rfl, h3, h4, h5⟩, rfl⟩
              have HS : Hid (sp (S t n j') = S t n j2) := h5
              clear h5
              by_cases hj2 : j2 < n
              · have hc2 := hc j2 hj2
                by_cases h93 : t j2 = 93
                · have h93' : (t j2 == 93) = true := by simp [h93]
                  have HQ : Hid (t j2 = 93) := h93
                  clear h93
                  go_wp2_with fail
                  go_ret
                  exact ⟨_, rfl, .inr ⟨j2 + 1, by rw [← HP.out, P_one, HO.out]; exact tailA_close HS.out hj2 HQ.out, by omega, by omega, by omega⟩, _, rfl⟩
                · have h93' : (t j2 == 93) = false := by simp [h93]
                  by_cases h44 : t j2 = 44
                  · have h44' : (t j2 != 44) = false := by simp [h44]
                    have HQ : Hid (t j2 = 44) := h44
                    clear h44
                    go_wp2_with fail
                    refine (sp_any b off n cap t _ (j2 + 1) (by omega) _ hn (by omega) (by exact hc)).mono ?_
                    rintro e w4 ⟨⟨j3, rfl, h6, h7, h8⟩, rfl⟩
                    go_wp2_with fail
                    go_roundw
                    case rel => exact ⟨j3, g, _, rfl, by omega, by omega, by omega, by omega, by rw [← HP.out, P_one, HO.out]; exact (tailA_next HS.out hj2 h93 HQ.out h8).symm, rfl⟩
                    case measure => simp [intOf]; omega
                  · have h44' : (t j2 != 44) = true := by simp [h44]
                    go_wp2_with fail
                    go_ret
                    exact ⟨_, rfl, .inl ⟨by rw [← HP.out, P_one, HO.out]; exact tailA_bad HS.out hj2 h93 h44, rfl⟩, _, rfl⟩
              · go_wp2_with fail
                go_ret
                exact ⟨_, rfl, .inl ⟨by rw [← HP.out, P_one, HO.out]; exact tailA_stop HS.out hj2, rfl⟩, _, rfl⟩
        · go_wp2_with fail
          go_ret
          exact ⟨_, rfl, .inl ⟨by rw [← HP.out, P_one_stop hjn], rfl⟩, _, rfl⟩
  · have hjn : k = n := by omega
    subst hjn
    go_wp2_with fail
    refine wp_loop_rounds 1 ?_
    rw [rounds_succ]
    go_wp2_with fail
    go_ret
    exact ⟨_, rfl, .inl ⟨openA_stop hk3 hlt, rfl⟩, 0, rfl⟩

end Go.Proofs.Qxb6600283a
