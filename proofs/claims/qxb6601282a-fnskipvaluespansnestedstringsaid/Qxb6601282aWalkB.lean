import Derived.Test.Qxb6601282aWalkA
namespace Go.Proofs.Qxb6601282a
open Go.RowKit Sk
set_option linter.unusedVariables false
set_option linter.unusedSimpArgs false

section
variable {t : Nat → Int} {n j d : Nat}
theorem gl_at_end : gl (S t n n) d 0 = if d = 0 then some [] else none := by rw [S_nil (by omega), gl]; simp
theorem gl_at_quote (h : j < n) (e : t j = 34) : gl (S t n j) d 0 = gl (S t n (j + 1)) d 1 := by rw [S_cons h, gl, if_pos e]
theorem gl_at_open (h : j < n) (e : t j = 123 ∨ t j = 91) : gl (S t n j) d 0 = gl (S t n (j + 1)) (d + 1) 0 := by rw [S_cons h, gl, if_neg (by omega), if_pos e]
theorem gl_at_close (h : j < n) (e : t j = 125 ∨ t j = 93) : gl (S t n j) d 0 = if d = 0 then some (S t n j) else if d = 1 then some (S t n (j + 1)) else gl (S t n (j + 1)) (d - 1) 0 := by
  rw [S_cons h, gl, if_neg (by omega), if_neg (by omega), if_pos e]
theorem gl_at_sep (h : j < n) (e : t j = 44 ∨ t j = 32 ∨ t j = 9 ∨ t j = 10 ∨ t j = 13) : gl (S t n j) d 0 = if d = 0 then some (S t n j) else gl (S t n (j + 1)) d 0 := by
  rw [S_cons h, gl, if_neg (by omega), if_neg (by omega), if_neg (by omega), if_pos (by simp [isSep]; omega)]
theorem gl_at_other (h : j < n) (e1 : ¬ t j = 34) (e2 : ¬ (t j = 123 ∨ t j = 91)) (e3 : ¬ (t j = 125 ∨ t j = 93)) (e4 : ¬ (t j = 44 ∨ t j = 32 ∨ t j = 9 ∨ t j = 10 ∨ t j = 13)) : gl (S t n j) d 0 = gl (S t n (j + 1)) d 0 := by
  rw [S_cons h, gl, if_neg e1, if_neg e2, if_neg e3, if_neg (by simp [isSep]; omega)]
theorem ans_S {i : Nat} (h : j ≤ n) : ans n i (some (S t n j)) = j := by rw [ans, S_length]; omega
end

set_option maxRecDepth 100000 in
set_option maxHeartbeats 1600000 in
theorem sv_any (b off n cap : Nat) (t : Nat → Int) (i : Nat) (w : World) (hn : n ≤ 4000000) (hcap : n ≤ cap) (hr : ∀ i, i < n → 0 ≤ t i ∧ t i < 256) (hi : i < n) (hc : Txt w b off n t) :
    Calls Try.prog 20 #[.slice (some ⟨b, off, none⟩) n cap, .int .i64 i] w fun e w' => e = .returned (.int .i64 (ans n i (gl (S t n i) 0 0) : Nat)) ∧ w' = w := by
  have HR := hidd hr
  clear hr
  obtain ⟨A, HA⟩ : ∃ A, Hid (A = ans n i (gl (S t n i) 0 0)) := ⟨_, rfl⟩
  rw [← HA.out]
  have hni : ¬ n ≤ i := by omega
  go_enter Try.func20, Try.ntmps20
  go_wp2_with fail
  go_loop [5, 6] (fun vd vj => ∃ d j : Nat, vd = .int .i64 d ∧ vj = .int .i64 j ∧ i ≤ j ∧ j ≤ n ∧ d ≤ j ∧ Hid (A = ans n i (gl (S t n j) d 0))) (fun _ vj => n - (intOf vj).toNat)
  case atStart => exact ⟨0, i, rfl, rfl, by omega, by omega, by omega, HA⟩
  case round =>
    obtain ⟨d, j, rfl, rfl, hj1, hj2, hd, H⟩ := hrel
    clear HA
    by_cases hjn : j < n
    · have hcj := hc j hjn
      by_cases h34 : t j = 34
      · have H34 := hidd h34
        have HG := hidd (gl_at_quote (d := d) hjn h34)
        rw [h34] at hcj
        clear h34
        go_wp2_with fail
        refine (ss_any b off n cap t j _ hn hcap HR.out hjn H34.out hc).mono ?_
        rintro e' w2 ⟨x, rfl, hs, hw2⟩
        have hw2' := hw2.symm
        subst hw2'
        clear hw2
        rcases hs with ⟨hs, rfl⟩ | ⟨q, hs, hq1, hq2, hq3, rfl⟩
        · have HX : Hid (A = i) := by
            show _ = _
            rw [H.out, HG.out, gl_ss, hs]; rfl
          clear hs
          go_wp2_with fail
          go_ret
          exact ⟨ret_int (by have := HX.out; omega), rfl⟩
        · have hcq := hc q hq2
          rw [hq3] at hcq
          have HX : Hid (A = ans n i (if d = 0 then some (S t n (q + 1)) else gl (S t n (q + 1)) d 0)) := by
            show _ = _
            rw [H.out, HG.out, gl_ss, hs]; rfl
          clear hs hq3
          have eq1 : ((q : Int) == n) = false := by simp; omega
          by_cases hd0 : d = 0
          · subst hd0
            have HY : Hid (A = q + 1) := by
              show _ = _
              rw [HX.out, if_pos rfl, ans_S (by omega)]
            clear HX
            go_wp2_with fail
            go_ret
            exact ⟨ret_int (by have := HY.out; omega), rfl⟩
          · have HY : Hid (A = ans n i (gl (S t n (q + 1)) d 0)) := by
              show _ = _
              rw [HX.out, if_neg hd0]
            have ed : ((d : Int) == 0) = false := by simp; omega
            clear HX
            go_wp2_with fail
            go_round
            case rel => exact ⟨d, q + 1, rfl, by go_num, by omega, by omega, by omega, HY⟩
            case measure => simp [intOf]; omega
      · by_cases ho : t j = 123 ∨ t j = 91
        · have HY : Hid (A = ans n i (gl (S t n (j + 1)) (d + 1) 0)) := by
            show _ = _
            rw [H.out, gl_at_open hjn ho]
          have ed : ((d : Int) + 1 == 0) = false := by simp; omega
          clear h34 H
          rcases ho with ho | ho
          all_goals
            rw [ho] at hcj
            clear ho
            go_wp2_with fail
            go_round
            case rel => exact ⟨d + 1, j + 1, by go_num, by go_num, by omega, by omega, by omega, HY⟩
            case measure => simp [intOf]; omega
        · by_cases hcl : t j = 125 ∨ t j = 93
          · have HG := hidd (gl_at_close (d := d) hjn hcl)
            clear h34 ho
            by_cases hd0 : d = 0
            · subst hd0
              have HY : Hid (A = j) := by
                show _ = _
                rw [H.out, HG.out, if_pos rfl, ans_S (by omega)]
              clear HG H
              rcases hcl with hcl | hcl
              all_goals
                rw [hcl] at hcj
                clear hcl
                go_wp2_with fail
                go_ret
                exact ⟨ret_int (by have := HY.out; omega), rfl⟩
            · by_cases hd1 : d = 1
              · subst hd1
                have HY : Hid (A = j + 1) := by
                  show _ = _
                  rw [H.out, HG.out, if_neg hd0, if_pos rfl, ans_S (by omega)]
                clear HG H
                rcases hcl with hcl | hcl
                all_goals
                  rw [hcl] at hcj
                  clear hcl
                  go_wp2_with fail
                  go_ret
                  exact ⟨ret_int (by have := HY.out; omega), rfl⟩
              · have HY : Hid (A = ans n i (gl (S t n (j + 1)) (d - 1) 0)) := by
                  show _ = _
                  rw [H.out, HG.out, if_neg hd0, if_neg hd1]
                have ed : ((d : Int) - 1 == 0) = false := by simp; omega
                have ed2 : ¬ ((d : Int) - 1 < 0) := by omega
                clear HG H
                rcases hcl with hcl | hcl
                all_goals
                  rw [hcl] at hcj
                  clear hcl
                  go_wp2_with fail
                  go_round
                  case rel => exact ⟨d - 1, j + 1, by go_num, by go_num, by omega, by omega, by omega, HY⟩
                  case measure => simp [intOf]; omega
          · by_cases hsp : t j = 44 ∨ t j = 32 ∨ t j = 9 ∨ t j = 10 ∨ t j = 13
            · have HG := hidd (gl_at_sep (d := d) hjn hsp)
              clear h34 ho hcl
              by_cases hd0 : d = 0
              · subst hd0
                have HY : Hid (A = j) := by
                  show _ = _
                  rw [H.out, HG.out, if_pos rfl, ans_S (by omega)]
                clear HG H
                rcases hsp with hcl | hcl | hcl | hcl | hcl
                all_goals
                  rw [hcl] at hcj
                  clear hcl
                  go_wp2_with fail
                  go_ret
                  exact ⟨ret_int (by have := HY.out; omega), rfl⟩
              · have HY : Hid (A = ans n i (gl (S t n (j + 1)) d 0)) := by
                  show _ = _
                  rw [H.out, HG.out, if_neg hd0]
                have ed : ((d : Int) == 0) = false := by simp; omega
                clear HG H
                rcases hsp with hcl | hcl | hcl | hcl | hcl
                all_goals
                  rw [hcl] at hcj
                  clear hcl
                  go_wp2_with fail
                  go_round
                  case rel => exact ⟨d, j + 1, rfl, by go_num, by omega, by omega, by omega, HY⟩
                  case measure => simp [intOf]; omega
            · have HY : Hid (A = ans n i (gl (S t n (j + 1)) d 0)) := by
                show _ = _
                rw [H.out, gl_at_other hjn h34 ho hcl hsp]
              have e1 : (t j == 34) = false := by simp; omega
              have e2 : (t j == 123) = false := by simp; omega
              have e3 : (t j == 91) = false := by simp; omega
              have e4 : (t j == 125) = false := by simp; omega
              have e5 : (t j == 93) = false := by simp; omega
              have e6 : (t j == 44) = false := by simp; omega
              have e7 : (t j == 32) = false := by simp; omega
              have e8 : (t j == 9) = false := by simp; omega
              have e9 : (t j == 10) = false := by simp; omega
              have e10 : (t j == 13) = false := by simp; omega
              clear h34 ho hcl hsp H
              by_cases hd0 : d = 0
              · subst hd0
                go_wp2_with fail
                go_round
                case rel => exact ⟨0, j + 1, rfl, by go_num, by omega, by omega, by omega, HY⟩
                case measure => simp [intOf]; omega
              · have ed : ((d : Int) == 0) = false := by simp; omega
                go_wp2_with fail
                go_round
                case rel => exact ⟨d, j + 1, rfl, by go_num, by omega, by omega, by omega, HY⟩
                case measure => simp [intOf]; omega
    · have hje : j = n := by omega
      subst hje
      have HG := hidd (gl_at_end (t := t) (n := j) (d := d))
      by_cases hd0 : d = 0
      · subst hd0
        have HY : Hid (A = j) := by
          show _ = _
          rw [H.out, HG.out, if_pos rfl]; simp [ans]
        clear HG H
        go_wp2_with fail
        go_ret
        exact ⟨ret_int (by have := HY.out; omega), rfl⟩
      · have HY : Hid (A = i) := by
          show _ = _
          rw [H.out, HG.out, if_neg hd0]; rfl
        have ed : ((d : Int) == 0) = false := by simp; omega
        clear HG H
        go_wp2_with fail
        go_ret
        exact ⟨ret_int (by have := HY.out; omega), rfl⟩

set_option maxRecDepth 100000 in
theorem sv_out (a : Option Addr) (n cap : Nat) (i : Int) (w : World) (hn : n ≤ 4000000) (hi : (n : Int) ≤ i) :
    Calls Try.prog 20 #[.slice a n cap, .int .i64 i] w fun e w' => e = .returned (.int .i64 i) ∧ w' = w := by
  go_enter Try.func20, Try.ntmps20
  go_wp2_with fail
  go_ret
  exact ⟨rfl, rfl⟩

set_option maxRecDepth 100000 in
theorem zsv_any (b off n cap : Nat) (t : Nat → Int) (i : Nat) (w : World) (hn : n ≤ 4000000) (hcap : n ≤ cap) (hr : ∀ i, i < n → 0 ≤ t i ∧ t i < 256) (hi : i < n) (hc : Txt w b off n t) :
    Calls Try.prog 15 #[.slice (some ⟨b, off, none⟩) n cap, .int .i64 i] w fun e w' => e = .returned (.int .i64 (ans n i (gl (S t n i) 0 0) : Nat)) ∧ w' = w := by
  have HR := hidd hr
  clear hr
  go_enter Try.func15, Try.ntmps15
  go_wp2_with fail
  refine (sv_any b off n cap t i _ hn hcap HR.out hi hc).mono ?_
  rintro e' w2 ⟨rfl, hw2⟩
  have hw2' := hw2.symm
  subst hw2'
  clear hw2
  go_wp2_with fail
  go_ret
  exact ⟨rfl, rfl⟩
set_option maxRecDepth 100000 in
theorem zsv_out (a : Option Addr) (n cap : Nat) (i : Int) (w : World) (hn : n ≤ 4000000) (hi : (n : Int) ≤ i) :
    Calls Try.prog 15 #[.slice a n cap, .int .i64 i] w fun e w' => e = .returned (.int .i64 i) ∧ w' = w := by
  go_enter Try.func15, Try.ntmps15
  go_wp2_with fail
  refine (sv_out a n cap i _ hn hi).mono ?_
  rintro e' w2 ⟨rfl, hw2⟩
  have hw2' := hw2.symm
  subst hw2'
  clear hw2
  go_wp2_with fail
  go_ret
  exact ⟨rfl, rfl⟩

end Go.Proofs.Qxb6601282a
