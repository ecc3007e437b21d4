import Derived.Test.Qxb6600283aWalkE
import Derived.Test.Qxb6600283aPlain3
import Derived.Laws.Externs
namespace Go.Proofs.Qxb6600283a
open Go.RowKit Js
set_option linter.unusedVariables false
set_option linter.unusedSimpArgs false

set_option maxRecDepth 100000 in
set_option maxHeartbeats 800000 in
theorem idx_any (b off n cap : Nat) (t : Nat → Int) (c : Int) (w : World) (hc : Txt w b off n t) :
    Calls Try.prog 41 #[.slice (some ⟨b, off, none⟩) n cap, .int .u8 c] w fun e w' => e = .returned (.int .i64 (Lib.indexByte (Lib.bytesOf ((List.range n).map t)) c.toNat.toUInt8)) ∧ w' = w := by
  go_enter Try.func41, Try.ntmps41
  go_wp2
  rw [run_callFunc_extern Try.func43 (by kernel_rfl) (by kernel_rfl) (by kernel_rfl) (e := Extern.BytealgIndexByte.indexByte) (by kernel_rfl), Lib.run_indexByteSlice w b off n cap ((List.range n).map t) (by simp) (fun i hi => by rw [getD_map t n i hi]; exact hc i hi) c]
  simp only [Result.andThen]
  rw [Oper.upon_value]
  go_wp2
  go_ret
  exact ⟨rfl, rfl⟩

set_option maxRecDepth 100000 in
set_option maxHeartbeats 800000 in
theorem esc_any (b off q cap : Nat) (t : Nat → Int) (w : World) (hq : q ≤ 1048576) (hc : Txt w b off q t) :
    Calls Try.prog 42 #[.slice (some ⟨b, off, none⟩) q cap] w fun e w' => e = .returned (.bool (bk t q % 2 == 1)) ∧ w' = w := by
  go_enter Try.func42, Try.ntmps42
  go_wp2
  go_loop [3] (fun v => ∃ m : Nat, v = .int .i64 m ∧ m ≤ q ∧ bk t q = m + bk t (q - m)) (fun v => q - (intOf v).toNat)
  case atStart => exact ⟨0, rfl, by omega, by simp⟩
  case round =>
    obtain ⟨m, rfl, hm, hb⟩ := hrel
    have HB : Hid (bk t q = m + bk t (q - m)) := hb
    clear hb
    by_cases hlt : m < q
    · have hcell : w.cell? ⟨b, off + (q - 1 - m), none⟩ = some (.int .u8 (t (q - 1 - m))) := hc (q - 1 - m) (by omega)
      by_cases h92 : t (q - 1 - m) = 92
      · have h92' : (t (q - 1 - m) == 92) = true := by simp [h92]
        have HQ : Hid (t (q - 1 - m) = 92) := h92
        clear h92
        go_wp2
        go_round
        case rel => exact ⟨m + 1, by go_num, by omega, by
          rw [HB.out]
          have : q - m = (q - 1 - m) + 1 := by omega
          rw [this, bk, if_pos HQ.out, show q - (m + 1) = q - 1 - m by omega]
          omega⟩
        case measure => simp [intOf]; omega
      · have h92' : (t (q - 1 - m) == 92) = false := by simp [h92]
        have hz : bk t (q - m) = 0 := by
          have : q - m = (q - 1 - m) + 1 := by omega
          rw [this, bk, if_neg h92]
        go_wp2
        go_ret
        exact ⟨ret_bool (by have := HB.out; rw [Bool.eq_iff_iff]; simp; omega), rfl⟩
    · have hz : bk t (q - m) = 0 := by
        have : q - m = 0 := by omega
        rw [this, bk]
      go_wp2
      go_ret
      exact ⟨ret_bool (by have := HB.out; rw [Bool.eq_iff_iff]; simp; omega), rfl⟩

set_option maxRecDepth 100000 in
set_option maxHeartbeats 800000 in
theorem str_any (b off n cap : Nat) (t : Nat → Int) (i q0 : Nat) (w : World) (hn : n ≤ 1048576) (hcap : n ≤ cap) (hr : ∀ i, i < n → 0 ≤ t i ∧ t i < 256) (hi : i < q0) (hq0 : q0 < n) (h34 : t q0 = 34) (hev : bk t q0 % 2 = 0) (hodd : ∀ q, i < q → q < q0 → t q = 34 → bk t q % 2 = 1) (hc : Txt w b off n t) :
    Calls Try.prog 40 #[.slice (some ⟨b, off, none⟩) n cap, .int .i64 i] w fun e w' => e = .returned (.int .i64 (q0 + 1 : Nat)) ∧ w' = w := by
  have H34 : Hid (t q0 = 34) := h34
  have HEV : Hid (bk t q0 % 2 = 0) := hev
  have HODD : Hid (∀ q, i < q → q < q0 → t q = 34 → bk t q % 2 = 1) := hodd
  have HR : Hid (∀ i, i < n → 0 ≤ t i ∧ t i < 256) := hr
  clear h34 hev hodd hr
  go_enter Try.func40, Try.ntmps40
  go_wp2_with fail
  go_loop [5] (fun v => ∃ j : Nat, v = .int .i64 j ∧ i < j ∧ j ≤ q0) (fun v => q0 + 1 - (intOf v).toNat)
  case atStart => exact ⟨i + 1, by go_num, by omega, by omega⟩
  case round =>
    obtain ⟨j, rfl, hj1, hj2⟩ := hrel
    obtain ⟨q, hq1, hq2, hq3, hq4⟩ := first_at t 34 (q0 - j) j q0 rfl hj2 H34.out
    obtain ⟨d, rfl⟩ : ∃ d, q = j + d := ⟨q - j, by omega⟩
    have HQ3 : Hid (t (j + d) = 34) := hq3
    have HI : Hid (Lib.indexByte (Lib.bytesOf ((List.range (n - j)).map fun m => t (j + m))) (34 : Int).toNat.toUInt8 = (d : Int)) := by
      refine indexByte_text (fun m => t (j + m)) (n - j) d 34 (by omega) (fun m hm => HR.out (j + m) (by omega)) (by omega) hq3 ?_
      intro m hm
      exact hq4 (j + m) (by omega) (by omega)
    clear hq3 hq4
    go_wp2_with fail
    refine (idx_any b (off + j) (n - j) (cap - j) (fun m => t (j + m)) 34 _ (fun m hm => by rw [Nat.add_assoc]; exact hc (j + m) (by omega))).mono ?_
    rintro e w2 ⟨rfl, rfl⟩
    rw [HI.out]
    go_wp2_with fail
    refine (esc_any b off (j + d) cap t _ (by omega) (fun m hm => hc m (by omega))).mono ?_
    rintro e w3 ⟨rfl, rfl⟩
    by_cases hlast : j + d = q0
    · have hb : (bk t (j + d) % 2 == 1) = false := by rw [hlast, HEV.out]; rfl
      have HL : Hid (j + d = q0) := hlast
      clear hlast
      go_wp2_with fail
      go_ret
      exact ⟨ret_int (by have := HL.out; omega), rfl⟩
    · have hb : (bk t (j + d) % 2 == 1) = true := by rw [HODD.out (j + d) (by omega) (by omega) HQ3.out]; rfl
      go_wp2_with fail
      go_round
      case rel => exact ⟨j + d + 1, by go_num, by omega, by omega⟩
      case measure => simp [intOf]; omega

end Go.Proofs.Qxb6600283a
