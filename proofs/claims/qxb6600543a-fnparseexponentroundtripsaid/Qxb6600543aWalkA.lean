import Derived.Test.Qxb6600543aRows
import Derived.Test.Qxb6600543aPlain
import Derived.WalkKit
import Derived.ProofKit
import Derived.Below
import Derived.WalkSpells
import Derived.WalkLawsBesides
import Derived.Deep.DeepCutAuto
import Derived.Lib.Bytealg
import Derived.Lib.IndexLaws
namespace Go.Proofs.Qxb6600543a
open Go.RowKit Ex
set_option linter.unusedVariables false
set_option linter.unusedSimpArgs false

theorem ret_bool {a b : Bool} (h : a = b) : Ending.returned (.bool a) = .returned (.bool b) := by rw [h]
theorem ret_int {k : IntKind} {a b : Int} (h : a = b) : Ending.returned (.int k a) = .returned (.int k b) := by rw [h]

set_option maxRecDepth 100000 in
theorem idx_in (s : ByteArray) (c : Int) (w : World) :
    Calls Try.prog 23 #[.string s, .int .u8 c] w fun e w' => e = .returned (.int .i64 (Lib.indexByte s.data.toList c.toNat.toUInt8)) ∧ w' = w := by
  go_enter Try.func23, Try.ntmps23
  go_wp2
  rw [run_callFunc_extern Try.func25 (by kernel_rfl) (by kernel_rfl) (by kernel_rfl) (e := Extern.BytealgIndexByte.indexByte) (by kernel_rfl), Lib.run_indexByteString s c w]
  simp only [Result.andThen]
  rw [Oper.upon_value]
  go_wp2
  go_ret
  exact ⟨rfl, rfl⟩
set_option maxRecDepth 100000 in
theorem idx_any (s : ByteArray) (c : Int) (w : World) :
    Calls Try.prog 21 #[.string s, .int .u8 c] w fun e w' => e = .returned (.int .i64 (Lib.indexByte s.data.toList c.toNat.toUInt8)) ∧ w' = w := by
  go_enter Try.func21, Try.ntmps21
  go_wp2_with (go_at_call 23; refine (idx_in _ _ _).mono ?_; rintro e w' ⟨rfl, rfl⟩)
  go_ret
  exact ⟨rfl, rfl⟩

theorem ne_of_pos {s : ByteArray} (h : 0 < s.size) : s.toList.isEmpty = false := by
  rw [Lib.toList_data]
  have : s.data.toList.length = s.size := by simp
  cases hl : s.data.toList with
  | nil => rw [hl] at this; simp at this; omega
  | cons c l => rfl
theorem take_snoc (s : ByteArray) (k : Nat) (h : k < s.size) : s.data.toList.take (k + 1) = s.data.toList.take k ++ [s[k]] := by
  rw [List.take_succ_eq_append_getElem (by simpa using h)]; rfl

theorem stp_if (x : Int) (c : UInt8) : (if 1000000000 < x * 10 + ((c.toNat : Int) - 48) then 1000000000 else x * 10 + ((c.toNat : Int) - 48)) = stp x c := by unfold stp; split <;> omega

/-- what is to be shown of the sign -/
def Sgn (s1 d : ByteArray) (hs1 : 0 < s1.size) (neg : Bool) : Prop := ((s1[0].toNat : Int) = 45 ∧ s1.extract 1 s1.size = d ∧ neg = true) ∨ ((s1[0].toNat : Int) = 43 ∧ s1.extract 1 s1.size = d ∧ neg = false) ∨ (s1 = d ∧ neg = false)

set_option maxRecDepth 100000 in
set_option maxHeartbeats 1600000 in
theorem pe_any (s s1 d mark : ByteArray) (neg : Bool) (w : World) (hs : 0 < s.size) (hsz : s.size ≤ 10000) (hi : 0 ≤ Lib.indexByte mark.data.toList ((s[0].toNat : Int)).toNat.toUInt8) (h1 : s.extract 1 s.size = s1) (hs1 : 0 < s1.size)
    (hsg : Sgn s1 d hs1 neg) (hd0 : 0 < d.size) (hd1 : d.size ≤ 10000) (hd : ∀ i (h : i < d.size), 48 ≤ (d[i].toNat : Int) ∧ (d[i].toNat : Int) ≤ 57) :
    Calls Try.prog 18 #[.string s, .string mark] w fun e w' => e = .returned (.tuple #[.int .i64 (if neg then -(ev d.data.toList 0) else ev d.data.toList 0), .bool true]) ∧ w' = w := by
  have HI : Hid (0 ≤ Lib.indexByte mark.data.toList ((s[0].toNat : Int)).toNat.toUInt8) := hi
  have HD : Hid (∀ i (h : i < d.size), 48 ≤ (d[i].toNat : Int) ∧ (d[i].toNat : Int) ≤ 57) := hd
  have hall : ∀ k, ∀ c ∈ d.data.toList.take k, 48 ≤ (c.toNat : Int) := by
    intro k c hc
    have hm := List.mem_of_mem_take hc
    obtain ⟨i, hi, e⟩ := List.getElem_of_mem hm
    have := (hd i (by simpa using hi)).1
    rw [← e]
    exact this
  have HALL : Hid (∀ k, ∀ c ∈ d.data.toList.take k, 48 ≤ (c.toNat : Int)) := hall
  clear hi hall
  have hds := ne_of_pos hs
  have hds1 := ne_of_pos hs1
  have hds2 := ne_of_pos hd0
  have hdz := hd 0 hd0
  clear hd
  rcases hsg with ⟨hsg, h2, rfl⟩ | ⟨hsg, h2, rfl⟩ | ⟨rfl, rfl⟩
  · have e1 : ((s1[0].toNat : Int) == 45) = true := by simp [hsg]
    clear hsg hdz
    go_enter Try.func18, Try.ntmps18
    go_wp2_with fail
    refine (idx_any _ _ _).mono ?_
    rintro e w' ⟨rfl, rfl⟩
    obtain ⟨x, hx⟩ : ∃ x, x = Lib.indexByte mark.data.toList ((s[0].toNat : Int)).toNat.toUInt8 := ⟨_, rfl⟩
    have hx0 : 0 ≤ x := by rw [hx]; exact HI.out
    rw [← hx]
    clear hx
    go_wp2_with fail
    go_loop [7, 43] (fun v i => ∃ k : Nat, k ≤ d.size ∧ i = .int .i64 k ∧ v = .int .i64 (ev (d.data.toList.take k) 0)) (fun _ i => d.size - (intOf i).toNat)
    case atStart => exact ⟨0, by omega, rfl, rfl⟩
    case round =>
      obtain ⟨k, hk, rfl, rfl⟩ := hrel
      obtain ⟨x, hx⟩ : ∃ x, x = ev (d.data.toList.take k) 0 := ⟨_, rfl⟩
      have hb := ev_bd (d.data.toList.take k) 0 (by omega) (by omega) (HALL.out k)
      rw [← hx] at hb
      have HX : Hid (x = ev (d.data.toList.take k) 0) := hx
      rw [← hx]
      clear hx
      by_cases hlt : k < d.size
      · have hdk := HD.out k hlt
        go_wp2_with fail
        go_round
        case rel => exact ⟨k + 1, by omega, by go_num, by rw [take_snoc d k hlt, ev_snoc, ← HX.out, stp_if]⟩
        case measure => simp [intOf]; omega
      · have HF : Hid (x = ev d.data.toList 0) := by
          show x = _
          rw [HX.out, List.take_of_length_le (by simp; omega)]
        clear HX
        go_wp2_with fail
        go_ret2
        exact ⟨by rw [← HF.out]; rfl, rfl⟩
  · have e1 : ((s1[0].toNat : Int) == 45) = false := by simp [hsg]
    have e2 : ((s1[0].toNat : Int) == 43) = true := by simp [hsg]
    clear hsg hdz
    go_enter Try.func18, Try.ntmps18
    go_wp2_with fail
    refine (idx_any _ _ _).mono ?_
    rintro e w' ⟨rfl, rfl⟩
    obtain ⟨x, hx⟩ : ∃ x, x = Lib.indexByte mark.data.toList ((s[0].toNat : Int)).toNat.toUInt8 := ⟨_, rfl⟩
    have hx0 : 0 ≤ x := by rw [hx]; exact HI.out
    rw [← hx]
    clear hx
    go_wp2_with fail
    go_loop [7, 43] (fun v i => ∃ k : Nat, k ≤ d.size ∧ i = .int .i64 k ∧ v = .int .i64 (ev (d.data.toList.take k) 0)) (fun _ i => d.size - (intOf i).toNat)
    case atStart => exact ⟨0, by omega, rfl, rfl⟩
    case round =>
      obtain ⟨k, hk, rfl, rfl⟩ := hrel
      obtain ⟨x, hx⟩ : ∃ x, x = ev (d.data.toList.take k) 0 := ⟨_, rfl⟩
      have hb := ev_bd (d.data.toList.take k) 0 (by omega) (by omega) (HALL.out k)
      rw [← hx] at hb
      have HX : Hid (x = ev (d.data.toList.take k) 0) := hx
      rw [← hx]
      clear hx
      by_cases hlt : k < d.size
      · have hdk := HD.out k hlt
        go_wp2_with fail
        go_round
        case rel => exact ⟨k + 1, by omega, by go_num, by rw [take_snoc d k hlt, ev_snoc, ← HX.out, stp_if]⟩
        case measure => simp [intOf]; omega
      · have HF : Hid (x = ev d.data.toList 0) := by
          show x = _
          rw [HX.out, List.take_of_length_le (by simp; omega)]
        clear HX
        go_wp2_with fail
        go_ret2
        exact ⟨by rw [← HF.out]; rfl, rfl⟩
  · have e1 : ((s1[0].toNat : Int) == 45) = false := by simp; omega
    have e2 : ((s1[0].toNat : Int) == 43) = false := by simp; omega
    clear hdz
    go_enter Try.func18, Try.ntmps18
    go_wp2_with fail
    refine (idx_any _ _ _).mono ?_
    rintro e w' ⟨rfl, rfl⟩
    obtain ⟨x, hx⟩ : ∃ x, x = Lib.indexByte mark.data.toList ((s[0].toNat : Int)).toNat.toUInt8 := ⟨_, rfl⟩
    have hx0 : 0 ≤ x := by rw [hx]; exact HI.out
    rw [← hx]
    clear hx
    go_wp2_with fail
    go_loop [7, 43] (fun v i => ∃ k : Nat, k ≤ s1.size ∧ i = .int .i64 k ∧ v = .int .i64 (ev (s1.data.toList.take k) 0)) (fun _ i => s1.size - (intOf i).toNat)
    case atStart => exact ⟨0, by omega, rfl, rfl⟩
    case round =>
      obtain ⟨k, hk, rfl, rfl⟩ := hrel
      obtain ⟨x, hx⟩ : ∃ x, x = ev (s1.data.toList.take k) 0 := ⟨_, rfl⟩
      have hb := ev_bd (s1.data.toList.take k) 0 (by omega) (by omega) (HALL.out k)
      rw [← hx] at hb
      have HX : Hid (x = ev (s1.data.toList.take k) 0) := hx
      rw [← hx]
      clear hx
      by_cases hlt : k < s1.size
      · have hdk := HD.out k hlt
        go_wp2_with fail
        go_round
        case rel => exact ⟨k + 1, by omega, by go_num, by rw [take_snoc s1 k hlt, ev_snoc, ← HX.out, stp_if]⟩
        case measure => simp [intOf]; omega
      · have HF : Hid (x = ev s1.data.toList 0) := by
          show x = _
          rw [HX.out, List.take_of_length_le (by simp; omega)]
        clear HX
        go_wp2_with fail
        go_ret2
        exact ⟨by rw [← HF.out]; rfl, rfl⟩

set_option maxRecDepth 100000 in
theorem zpe_any (s s1 d mark : ByteArray) (neg : Bool) (w : World) (hs : 0 < s.size) (hsz : s.size ≤ 10000) (hi : 0 ≤ Lib.indexByte mark.data.toList ((s[0].toNat : Int)).toNat.toUInt8) (h1 : s.extract 1 s.size = s1) (hs1 : 0 < s1.size)
    (hsg : Sgn s1 d hs1 neg) (hd0 : 0 < d.size) (hd1 : d.size ≤ 10000) (hd : ∀ i (h : i < d.size), 48 ≤ (d[i].toNat : Int) ∧ (d[i].toNat : Int) ≤ 57) :
    Calls Try.prog 9 #[.string s, .string mark] w fun e w' => e = .returned (.tuple #[.int .i64 (if neg then -(ev d.data.toList 0) else ev d.data.toList 0), .bool true]) ∧ w' = w := by
  have H := pe_any s s1 d mark neg w hs hsz hi h1 hs1 hsg hd0 hd1 hd
  obtain ⟨r, hr⟩ : ∃ r, r = if neg = true then -(ev d.data.toList 0) else ev d.data.toList 0 := ⟨_, rfl⟩
  rw [← hr] at H ⊢
  clear hr hi h1 hsg hd
  go_enter Try.func9, Try.ntmps9
  go_wp2_with fail
  refine H.mono ?_
  rintro e w' ⟨rfl, rfl⟩
  go_wp2_with fail
  go_ret2
  exact ⟨rfl, rfl⟩

end Go.Proofs.Qxb6600543a
