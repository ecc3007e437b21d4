import Derived.Test.Qxb6601282aRows
import Derived.Test.Qxb6601282aPlain
import Derived.WalkKit
import Derived.ProofKit
import Derived.Below
import Derived.WalkSpells
import Derived.Laws.Externs
namespace Go.Proofs.Qxb6601282a
open Go.RowKit Sk
set_option linter.unusedVariables false
set_option linter.unusedSimpArgs false

theorem ret_bool {a b : Bool} (h : a = b) : Ending.returned (.bool a) = .returned (.bool b) := by rw [h]
theorem ret_int {k : IntKind} {a b : Int} (h : a = b) : Ending.returned (.int k a) = .returned (.int k b) := by rw [h]
theorem hidd {p : Prop} (h : p) : Hid p := h

/-- the bytes of a slice: cell i holds t i -/
def Txt (w : World) (b off n : Nat) (t : Nat → Int) : Prop := ∀ i, i < n → w.cell? ⟨b, off + i, none⟩ = some (.int .u8 (t i))

set_option maxRecDepth 100000 in
set_option maxHeartbeats 800000 in
theorem idx_any (b off n cap : Nat) (t : Nat → Int) (c : Int) (w : World) (hc : Txt w b off n t) :
    Calls Try.prog 22 #[.slice (some ⟨b, off, none⟩) n cap, .int .u8 c] w fun e w' => e = .returned (.int .i64 (Lib.indexByte (Lib.bytesOf ((List.range n).map t)) c.toNat.toUInt8)) ∧ w' = w := by
  go_enter Try.func22, Try.ntmps22
  go_wp2
  rw [run_callFunc_extern Try.func23 (by kernel_rfl) (by kernel_rfl) (by kernel_rfl) (e := Extern.BytealgIndexByte.indexByte) (by kernel_rfl), Lib.run_indexByteSlice w b off n cap ((List.range n).map t) (by simp) (fun i hi => by rw [getD_map t n i hi]; exact hc i hi) c]
  simp only [Result.andThen]
  rw [Oper.upon_value]
  go_wp2
  go_ret
  exact ⟨rfl, rfl⟩

set_option maxHeartbeats 400000 in
theorem isSep_any (c : Int) (w : World) :
    Calls Try.prog 21 #[.int .u8 c] w fun e w' => e = .returned (.bool (isSep c)) ∧ w' = w := by
  go_enter Try.func21, Try.ntmps21
  go_wp2
  all_goals
    go_ret
    exact ⟨ret_bool (by simp [isSep, *]), rfl⟩

/-- what skipString answers -/
def SsR (t : Nat → Int) (n i : Nat) (x : Int) : Prop := (ss (S t n (i + 1)) 0 = none ∧ x = n) ∨ ∃ q : Nat, ss (S t n (i + 1)) 0 = some (S t n (q + 1)) ∧ i < q ∧ q < n ∧ t q = 34 ∧ x = q

set_option maxRecDepth 100000 in
set_option maxHeartbeats 1000000 in
theorem ss_any (b off n cap : Nat) (t : Nat → Int) (i : Nat) (w : World) (hn : n ≤ 4000000) (hcap : n ≤ cap) (hr : ∀ i, i < n → 0 ≤ t i ∧ t i < 256) (hi : i < n) (h34 : t i = 34) (hc : Txt w b off n t) :
    Calls Try.prog 19 #[.slice (some ⟨b, off, none⟩) n cap, .int .i64 i] w fun e w' => ∃ x : Int, e = .returned (.int .i64 x) ∧ SsR t n i x ∧ w' = w := by
  have HR := hidd hr
  have H34 := hidd h34
  clear hr h34
  go_enter Try.func19, Try.ntmps19
  go_wp2_with fail
  go_loop [1] (fun v => ∃ j : Nat, v = .int .i64 j ∧ i ≤ j ∧ j < n ∧ Hid (t j = 34) ∧ Hid (ss (S t n (j + 1)) 0 = ss (S t n (i + 1)) 0)) (fun v => n - (intOf v).toNat)
  case atStart => exact ⟨i, rfl, Nat.le_refl _, hi, H34, rfl⟩
  case round =>
    obtain ⟨j, rfl, hj1, hj2, hq, hss⟩ := hrel
    have hbk0 : bk t (j + 1) = 0 := by rw [bk, if_neg (by have := hq.out; omega)]
    by_cases hex : ∃ e, j < e ∧ e < n ∧ t e = 34
    · obtain ⟨e, he1, he2, he3⟩ := hex
      obtain ⟨q, hq1, hq2, hq3, hq4⟩ := first_at t 34 (e - (j + 1)) (j + 1) e rfl (by omega) he3
      obtain ⟨d, rfl⟩ : ∃ d, q = j + 1 + d := ⟨q - (j + 1), by omega⟩
      have HI : Hid (Lib.indexByte (Lib.bytesOf ((List.range (n - (j + 1))).map fun m => t (j + 1 + m))) (34 : Int).toNat.toUInt8 = (d : Int)) := by
        refine indexByte_text (fun m => t (j + 1 + m)) (n - (j + 1)) d 34 (by omega) (fun m hm => HR.out (j + 1 + m) (by omega)) (by omega) hq3 ?_
        intro m hm
        exact hq4 (j + 1 + m) (by omega) (by omega)
      have HQ3 := hidd hq3
      have HRUN := hidd (ss_run (t := t) (n := n) (j + 1) d (j + 1 + d) rfl (by omega) (by omega) hq4)
      have hne : ¬ cap = j + 1 := by omega
      clear hq3 hq4 he3 hbk0
      go_wp2_with fail
      refine (idx_any b (off + (j + 1)) (n - (j + 1)) (cap - (j + 1)) (fun m => t (j + 1 + m)) 34 _ (fun m hm => by rw [Nat.add_assoc]; exact hc (j + 1 + m) (by omega))).mono ?_
      rintro e' w2 ⟨rfl, hw2⟩
      have hw2' := hw2.symm
      subst hw2'
      rw [HI.out]
      clear hw2
      go_wp2_with fail
      go_loop [6, 7] (fun vm vj => ∃ m e : Nat, vm = .int .i64 m ∧ vj = .int .i64 (j + e : Nat) ∧ m + e ≤ d ∧ d ≤ m + e ∧ Hid (bk t (j + 1 + d) = m + bk t (j + 1 + e))) (fun vm _ => d + 1 - (intOf vm).toNat)
      case atStart => exact ⟨0, d, rfl, by go_num, by omega, by omega, by show _ = _; omega⟩
      case round =>
        obtain ⟨m, e2, rfl, rfl, hm1, hm2, hbk⟩ := hrel
        have hce := hc (j + e2) (by omega)
        by_cases h92 : t (j + e2) = 92
        · have e92 : (t (j + e2) == 92) = true := by simp [h92]
          have he0 : 0 < e2 := by
            rcases Nat.eq_zero_or_pos e2 with h | h
            · rw [h, Nat.add_zero] at h92; have := hq.out; omega
            · exact h
          have HB : Hid (bk t (j + 1 + d) = (m + 1) + bk t (j + 1 + (e2 - 1))) := by
            show _ = _
            have h1 := hbk.out
            rw [show j + 1 + e2 = (j + e2) + 1 by omega, bk, if_pos h92] at h1
            rw [show j + 1 + (e2 - 1) = j + e2 by omega]
            omega
          clear h92 hbk
          go_wp2_with fail
          go_round
          case rel => exact ⟨m + 1, e2 - 1, by go_num, by first | go_num | (congr 1; omega), by omega, by omega, HB⟩
          case measure => simp [intOf]; omega
        · have e92 : (t (j + e2) == 92) = false := by simp [h92]
          have HB : Hid (bk t (j + 1 + d) = m) := by
            show _ = _
            have h1 := hbk.out
            rw [show j + 1 + e2 = (j + e2) + 1 by omega, bk, if_neg h92] at h1
            omega
          clear h92 hbk
          by_cases hev : m % 2 = 0
          · have eev : ((m : Int) % 2 == 0) = true := by simp; omega
            have HSS : Hid (ss (S t n (i + 1)) 0 = some (S t n (j + 1 + d + 1))) := by
              show _ = _
              rw [← hss.out, HRUN.out, HB.out, hev, ss_quote (by omega) HQ3.out]
            clear hev
            go_wp2_with fail
            go_ret
            exact ⟨_, rfl, .inr ⟨j + 1 + d, HSS.out, by omega, by omega, HQ3.out, by omega⟩, rfl⟩
          · have eev : ((m : Int) % 2 == 0) = false := by simp; omega
            have HSS : Hid (ss (S t n (j + 1 + d + 1)) 0 = ss (S t n (i + 1)) 0) := by
              show _ = _
              rw [← hss.out, HRUN.out, HB.out, show m % 2 = 1 by omega, ss_esc (by omega)]
            clear hev
            go_wp2_with fail
            go_round
            case rel => exact ⟨j + 1 + d, by first | go_num | (congr 1; omega), by omega, by omega, HQ3, HSS⟩
            case measure => simp [intOf]; omega
    · have hno : ∀ m, j + 1 ≤ m → m < n → ¬ t m = 34 := fun m h1 h2 h3 => hex ⟨m, by omega, h2, h3⟩
      have HI : Hid (Lib.indexByte (Lib.bytesOf ((List.range (n - (j + 1))).map fun m => t (j + 1 + m))) (34 : Int).toNat.toUInt8 = -1) := by
        refine indexByte_text_none (fun m => t (j + 1 + m)) (n - (j + 1)) 34 (fun m hm => HR.out (j + 1 + m) (by omega)) (by omega) ?_
        intro m hm
        exact hno (j + 1 + m) (by omega) (by omega)
      have HSS : Hid (ss (S t n (i + 1)) 0 = none) := by
        show _ = _
        rw [← hss.out, ss_run (t := t) (n := n) (j + 1) (n - (j + 1)) n (by omega) (by omega) (by omega) hno, ss_stop (by omega)]
      clear hex hno hbk0
      by_cases hne : cap = j + 1
      · have hz : n - (j + 1) = 0 := by omega
        have HZ := hidd hz
        have hnj : n = j + 1 := by omega
        clear hz
        subst hnj
        subst hne
        go_wp2_with fail
        refine (idx_any b off 0 _ (fun m => t (j + 1 + m)) 34 _ (fun m hm => by omega)).mono ?_
        rintro e' w2 ⟨rfl, hw2⟩
        have hw2' := hw2.symm
        subst hw2'
        clear hw2
        have HI' : Hid (Lib.indexByte (Lib.bytesOf ((List.range 0).map fun m => t (j + 1 + m))) (34 : Int).toNat.toUInt8 = -1) := by
          have := HI.out; rw [HZ.out] at this; exact this
        rw [HI'.out]
        go_wp2_with fail
        go_ret
        exact ⟨_, rfl, .inl ⟨HSS.out, by omega⟩, rfl⟩
      · go_wp2_with fail
        refine (idx_any b (off + (j + 1)) (n - (j + 1)) (cap - (j + 1)) (fun m => t (j + 1 + m)) 34 _ (fun m hm => by rw [Nat.add_assoc]; exact hc (j + 1 + m) (by omega))).mono ?_
        rintro e' w2 ⟨rfl, hw2⟩
        have hw2' := hw2.symm
        subst hw2'
        clear hw2
        rw [HI.out]
        go_wp2_with fail
        go_ret
        exact ⟨_, rfl, .inl ⟨HSS.out, rfl⟩, rfl⟩

end Go.Proofs.Qxb6601282a
