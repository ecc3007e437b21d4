import Derived.Test.Qxb6600283aWalkH
import Derived.Test.Qxb6600283aPlain5
namespace Go.Proofs.Qxb6600283a
open Go.RowKit Js
set_option linter.unusedVariables false
set_option linter.unusedSimpArgs false

/-- stringEnd, the string as the parser reads it -/
theorem strEnd_any (b off n cap : Nat) (t : Nat → Int) (i e : Nat) (w : World) (hn : n ≤ 1048576) (hcap : n ≤ cap) (hr : ∀ i, i < n → 0 ≤ t i ∧ t i < 256) (hi : i < n) (he : e ≤ n) (h34 : t i = 34) (h : ps (S t n (i + 1)) 0 = some (S t n e)) (hc : Txt w b off n t) :
    Calls Try.prog 40 #[.slice (some ⟨b, off, none⟩) n cap, .int .i64 i] w fun e' w' => e' = .returned (.int .i64 (e : Nat)) ∧ w' = w := by
  obtain ⟨q0, rfl, h1, h2, h3, h4⟩ := str_facts hi he h34 h
  exact str_any b off n cap t i q0 w hn hcap hr h1 (by omega) h2 h3 h4 hc

set_option maxRecDepth 100000 in
set_option maxHeartbeats 800000 in
theorem ve_any (b off n cap : Nat) (t : Nat → Int) (i e : Nat) (w : World) (hn : n ≤ 1048576) (hcap : n ≤ cap) (hr : ∀ i, i < n → 0 ≤ t i ∧ t i < 256) (hi : i < n) (he : e ≤ n) (h : VE t n i e) (hc : Txt w b off n t) :
    Calls Try.prog 34 #[.slice (some ⟨b, off, none⟩) n cap, .int .i64 i] w fun e' w' => e' = .returned (.int .i64 (e : Nat)) ∧ w' = w := by
  have HR : Hid (∀ i, i < n → 0 ≤ t i ∧ t i < 256) := hr
  clear hr
  have hci := hc i hi
  rcases h with ⟨h34, h⟩ | ⟨hb, h⟩ | ⟨h1, h2, h3, h4, h5, h6⟩
  · have e1 : (t i == 34) = true := by simp [h34]
    have HA : Hid (t i = 34) := h34
    have HB : Hid (ps (S t n (i + 1)) 0 = some (S t n e)) := h
    clear h34 h
    go_enter Try.func34, Try.ntmps34
    go_wp2_with fail
    refine (strEnd_any b off n cap t i e _ hn hcap HR.out hi he HA.out HB.out hc).mono ?_
    rintro e w' ⟨rfl, rfl⟩
    go_wp2_with fail
    go_ret
    exact ⟨rfl, rfl⟩
  · have e1 : (t i == 34) = false := by simp; omega
    have HV : Hid (V (S t n i) 0 (S t n e)) := h
    have hbb : (t i == 123) = true ∨ (t i == 123) = false ∧ (t i == 91) = true := by simp; omega
    clear h hb
    go_enter Try.func34, Try.ntmps34
    rcases hbb with hbb | ⟨hb1, hbb⟩
    all_goals
      go_wp2_with fail
      go_loop [5, 6] (fun d j => ∃ (dd : Int) (jj : Nat), d = .int .i64 dd ∧ j = .int .i64 jj ∧ i ≤ jj ∧ jj ≤ n ∧ -(jj : Int) ≤ dd ∧ dd ≤ jj ∧ V (S t n jj) dd (S t n e)) (fun _ j => n - (intOf j).toNat)
      case atStart => exact ⟨0, i, rfl, rfl, by omega, by omega, by omega, by omega, HV.out⟩
      case round =>
        obtain ⟨d, j, rfl, rfl, hj1, hj2, hd1, hd2, hv⟩ := hrel
        obtain ⟨hjn, hv⟩ := V_inv hv
        have hcj := hc j hjn
        clear hci
        rcases hv with ⟨h34, e', hp, he1, he2, hv⟩ | ⟨ho, hv⟩ | ⟨hcl, hd, hv⟩ | ⟨hcl, hd, hv⟩ | ⟨hnb, hv⟩
        · have e2 : (t j == 34) = true := by simp [h34]
          have HA : Hid (t j = 34) := h34
          have HB : Hid (ps (S t n (j + 1)) 0 = some (S t n e')) := hp
          clear h34 hp
          go_wp2_with fail
          refine (strEnd_any b off n cap t j e' _ hn hcap HR.out hjn he2 HA.out HB.out hc).mono ?_
          rintro e w' ⟨rfl, rfl⟩
          go_wp2_with fail
          go_round
          case rel => exact ⟨d, e', rfl, by go_num, by omega, by omega, by omega, by omega, hv⟩
          case measure => simp [intOf]; omega
        · have e2 : (t j == 34) = false := by simp; omega
          have hbb : (t j == 123) = true ∨ (t j == 123) = false ∧ (t j == 91) = true := by simp; omega
          clear ho
          rcases hbb with hbb | ⟨hb1, hbb⟩
          all_goals
            go_wp2_with fail
            go_round
            case rel => exact ⟨d + 1, j + 1, rfl, by go_num, by omega, by omega, by omega, by omega, hv⟩
            case measure => simp [intOf]; omega
        · have e2 : (t j == 34) = false := by simp; omega
          have e3 : (t j == 123) = false := by simp; omega
          have e4 : (t j == 91) = false := by simp; omega
          have hbb : (t j == 125) = true ∨ (t j == 125) = false ∧ (t j == 93) = true := by simp; omega
          have hdd : (d - 1 == 0) = true := by simp; omega
          have hje := S_inj (by omega) he hv
          have HD : Hid (d - 1 = 0) := hd
          have HJ : Hid (j + 1 = e) := hje
          clear hcl hd hje hv
          rcases hbb with hbb | ⟨hb1, hbb⟩
          all_goals
            go_wp2_with fail
            go_ret
            exact ⟨ret_int (by have := HJ.out; omega), rfl⟩
        · have e2 : (t j == 34) = false := by simp; omega
          have e3 : (t j == 123) = false := by simp; omega
          have e4 : (t j == 91) = false := by simp; omega
          have hbb : (t j == 125) = true ∨ (t j == 125) = false ∧ (t j == 93) = true := by simp; omega
          have hdd : (d - 1 == 0) = false := by simp; omega
          clear hcl hd
          rcases hbb with hbb | ⟨hb1, hbb⟩
          all_goals
            go_wp2_with fail
            go_round
            case rel => exact ⟨d - 1, j + 1, rfl, by go_num, by omega, by omega, by omega, by omega, hv⟩
            case measure => simp [intOf]; omega
        · have hx := nb_F hnb
          have e2 : (t j == 34) = false := by simp; omega
          have e3 : (t j == 123) = false := by simp; omega
          have e4 : (t j == 91) = false := by simp; omega
          have e5 : (t j == 125) = false := by simp; omega
          have e6 : (t j == 93) = false := by simp; omega
          clear hx hnb
          go_wp2_with fail
          go_round
          case rel => exact ⟨d, j + 1, rfl, by go_num, by omega, by omega, by omega, by omega, hv⟩
          case measure => simp [intOf]; omega
  · have e1 : (t i == 34) = false := by simp; omega
    have e2 : (t i == 123) = false := by simp; omega
    have e3 : (t i == 91) = false := by simp; omega
    have H4 : Hid (∀ k, i ≤ k → k < e → isDl (t k) = false) := h4
    have H6 : Hid (e = n ∨ e < n ∧ isDl (t e) = true) := h6
    clear h4 h6 h1 h2 h3
    go_enter Try.func34, Try.ntmps34
    go_wp2_with fail
    go_loop [7] (fun j => ∃ (jj : Nat), j = .int .i64 jj ∧ i ≤ jj ∧ jj ≤ e) (fun j => n + 1 - (intOf j).toNat)
    case atStart => exact ⟨i, rfl, by omega, h5⟩
    case round =>
      obtain ⟨j, rfl, hj1, hj2⟩ := hrel
      clear hci e1 e2 e3
      by_cases hje : j < e
      · have hcj := hc j (by omega)
        have hdl := H4.out j hj1 hje
        have e0 : ((j : Int) == n) = false := by simp; omega
        have e1 : (t j == 32) = false := by simp [isDl] at hdl ⊢; omega
        have e2 : (t j == 9) = false := by simp [isDl] at hdl ⊢; omega
        have e3 : (t j == 10) = false := by simp [isDl] at hdl ⊢; omega
        have e4 : (t j == 13) = false := by simp [isDl] at hdl ⊢; omega
        have e5 : (t j == 44) = false := by simp [isDl] at hdl ⊢; omega
        have e6 : (t j == 93) = false := by simp [isDl] at hdl ⊢; omega
        have e7 : (t j == 125) = false := by simp [isDl] at hdl ⊢; omega
        clear hdl
        go_wp2_with fail
        go_round
        case rel => exact ⟨j + 1, by go_num, by omega, by omega⟩
        case measure => simp [intOf]; omega
      · have hje' : j = e := by omega
        subst hje'
        by_cases hjn : j < n
        · have hcj := hc j hjn
          have e0 : ((j : Int) == n) = false := by simp; omega
          have hdl : isDl (t j) = true := by rcases H6.out with h | h; exact absurd h (by omega); exact h.2
          have HD : Hid (isDl (t j) = true) := hdl
          clear hdl
          go_wp2_with fail
          all_goals first
            | (go_ret; exact ⟨rfl, rfl⟩)
            | (exfalso; have h := HD.out; simp [isDl, *] at h)
        · have e0 : ((j : Int) == n) = true := by simp; omega
          go_wp2_with fail
          go_ret
          exact ⟨rfl, rfl⟩

set_option maxRecDepth 100000 in
theorem zve_any (b off n cap : Nat) (t : Nat → Int) (i e : Nat) (w : World) (hn : n ≤ 1048576) (hcap : n ≤ cap) (hr : ∀ i, i < n → 0 ≤ t i ∧ t i < 256) (hi : i < n) (he : e ≤ n) (h : VE t n i e) (hc : Txt w b off n t) :
    Calls Try.prog 26 #[.slice (some ⟨b, off, none⟩) n cap, .int .i64 i] w fun e' w' => e' = .returned (.int .i64 (e : Nat)) ∧ w' = w := by
  have HV : Hid (VE t n i e) := h
  have HR : Hid (∀ i, i < n → 0 ≤ t i ∧ t i < 256) := hr
  clear h hr
  go_enter Try.func26, Try.ntmps26
  go_wp2_with fail
  refine (ve_any b off n cap t i e _ hn hcap HR.out hi he HV.out hc).mono ?_
  rintro e w' ⟨rfl, rfl⟩
  go_wp2_with fail
  go_ret
  exact ⟨rfl, rfl⟩

end Go.Proofs.Qxb6600283a
