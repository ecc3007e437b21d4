import Derived.Test.Qxb6600803aRows
import Derived.Test.Qxb6600803aPlain
import Derived.WalkKit
import Derived.ProofKit
import Derived.Below
import Derived.WalkSpells
import Derived.WalkLawsBesides
import Derived.Deep.QuietTactic
import Derived.BigQuiet
import Derived.Deep.DeepCutAuto
import Derived.Lib.Bytealg
import Derived.Lib.IndexLaws
import Derived.Lib.IndexBytes
import Derived.Lib.ConvBytes
import Derived.Laws.BytesArg
namespace Go.Proofs.Qxb6600803a
open Go.RowKit Tm
set_option linter.unusedVariables false
set_option linter.unusedSimpArgs false

theorem ret_bool {a b : Bool} (h : a = b) : Ending.returned (.bool a) = .returned (.bool b) := by rw [h]
theorem ret_int {k : IntKind} {a b : Int} (h : a = b) : Ending.returned (.int k a) = .returned (.int k b) := by rw [h]
theorem hidd {p : Prop} (h : p) : Hid p := h

theorem isDg_any (c : Int) (w : World) (h1 : 48 ≤ c) (h2 : c ≤ 57) :
    Calls Try.prog 31 #[.int .u8 c] w fun e w' => e = .returned (.bool true) ∧ w' = w := by
  go_enter Try.func31, Try.ntmps31
  go_wp2
  go_ret
  exact ⟨ret_bool (by simp; try omega), rfl⟩

theorem bw_below (w : World) (e : TypeId) (s : ByteArray) : Below w.heap.size w (Lib.bytesWorld w e s) :=
  ⟨rfl, rfl, rfl, by rw [Lib.bytesWorld_size]; omega, fun k hk => Lib.bytesWorld_at_old w e s k hk⟩

set_option maxRecDepth 100000 in
set_option maxHeartbeats 800000 in
theorem dig_any (l : List Int) (n : Nat) (x : Int) (w : World) (hl : l.length = n) (hx : x = n) (hn : n ≤ 9) (hd : ∀ c ∈ l, 48 ≤ c ∧ c ≤ 57) :
    Calls Try.prog 26 #[.string (strOfNums l), .int .i64 x] w fun e w' => e = .returned (.tuple #[.int .i64 (nv l), .bool true]) ∧ Below w.heap.size w w' := by
  subst hx
  have hconv := Lib.run_convert_string_bytes (P := Try.prog) w 9 29 5 (strOfNums l) Try.underlying9 Try.underlying29 Try.underlying5
  have hsz := strOfNums_size l
  rw [hl] at hsz
  rw [hsz] at hconv
  have hcell : ∀ j, j < n → (Lib.bytesWorld w 5 (strOfNums l)).cell? ⟨w.heap.size, j, none⟩ = some (.int .u8 (l.getD j 0)) := by
    intro j hj
    rw [Lib.bytesWorld_cell w 5 (strOfNums l) j (by omega), strOfNums_data]
    have hm : l.getD j 0 ∈ l := by
      rw [List.getD_eq_getElem?_getD, List.getElem?_eq_getElem (by omega)]
      exact List.getElem_mem _
    have := hd _ hm
    simp only [List.getD_eq_getElem?_getD, List.getElem?_map] at this ⊢
    rw [List.getElem?_eq_getElem (by omega)] at this ⊢
    simp at this ⊢
    omega
  have HC := hidd hcell
  have HD := hidd hd
  have HL := hidd hl
  have HB := hidd (bw_below w 5 (strOfNums l))
  obtain ⟨W, hW⟩ : ∃ W, W = Lib.bytesWorld w 5 (strOfNums l) := ⟨_, rfl⟩
  obtain ⟨G, hG⟩ : ∃ G, G = grownCap w n 0 5 := ⟨_, rfl⟩
  rw [← hW] at HC HB hconv
  rw [← hG] at hconv
  clear hcell hd hl hW hG
  have hne : ((n : Int) != (n : Int)) = false := by simp
  go_enter Try.func26, Try.ntmps26
  go_wp2_with fail
  go_loop [6, 16] (fun v i => ∃ k : Nat, k ≤ n ∧ i = .int .i64 k ∧ v = .int .i64 (nv (l.take k))) (fun _ i => n - (intOf i).toNat)
  case atStart => exact ⟨0, by omega, rfl, rfl⟩
  case round =>
    obtain ⟨k, hk, rfl, rfl⟩ := hrel
    obtain ⟨hb1, hb2⟩ := nv_bd9 (l.take k) (fun c hc => HD.out c (List.mem_of_mem_take hc)) (by rw [List.length_take]; omega)
    obtain ⟨x, hx⟩ : ∃ x, x = nv (l.take k) := ⟨_, rfl⟩
    rw [← hx] at hb1 hb2 ⊢
    have HX := hidd hx
    clear hx
    by_cases hlt : k < n
    · have hcx := HC.out k hlt
      have hkl : k < l.length := by rw [HL.out]; exact hlt
      have hm : l.getD k 0 ∈ l := by
        rw [List.getD_eq_getElem?_getD, List.getElem?_eq_getElem hkl]
        exact List.getElem_mem _
      have hdk := HD.out _ hm
      obtain ⟨c, hc⟩ : ∃ c, c = l.getD k 0 := ⟨_, rfl⟩
      rw [← hc] at hdk hcx
      have HE : Hid (l.take (k + 1) = l.take k ++ [c]) := by
        show l.take (k + 1) = l.take k ++ [c]
        rw [List.take_succ_eq_append_getElem hkl, hc, List.getD_eq_getElem?_getD, List.getElem?_eq_getElem hkl]
        rfl
      clear hc hm hkl
      go_wp2_with (go_at_call 31; refine (isDg_any _ _ (by omega) (by omega)).mono ?_; rintro e w' ⟨rfl, rfl⟩)
      go_round
      case rel => exact ⟨k + 1, by omega, by go_num, by rw [HE.out, nv_snoc, ← HX.out]⟩
      case measure => simp [intOf]; omega
    · have HF : Hid (x = nv l) := by
        show x = nv l
        rw [HX.out, List.take_of_length_le (by rw [HL.out]; omega)]
      clear HX
      go_wp2_with fail
      go_ret2
      exact ⟨by rw [← HF.out]; rfl, HB.out⟩

set_option maxRecDepth 100000 in
theorem idx_in (s : ByteArray) (c : Int) (w : World) :
    Calls Try.prog 33 #[.string s, .int .u8 c] w fun e w' => e = .returned (.int .i64 (Lib.indexByte s.data.toList c.toNat.toUInt8)) ∧ w' = w := by
  go_enter Try.func33, Try.ntmps33
  go_wp2
  rw [run_callFunc_extern Try.func37 (by kernel_rfl) (by kernel_rfl) (by kernel_rfl) (e := Extern.BytealgIndexByte.indexByte) (by kernel_rfl), Lib.run_indexByteString s c w]
  simp only [Result.andThen]
  rw [Oper.upon_value]
  go_wp2
  go_ret
  exact ⟨rfl, rfl⟩

set_option maxRecDepth 100000 in
set_option maxHeartbeats 800000 in
theorem idx1_any (s sep : ByteArray) (w : World) (h1 : sep.size = 1) (hne : (sep.toList == s.toList) = false) :
    Calls Try.prog 32 #[.string s, .string sep] w fun e w' => e = .returned (.int .i64 (Lib.indexByte s.data.toList sep[0])) ∧ w' = w := by
  go_enter Try.func32, Try.ntmps32
  go_wp2_with (go_at_call 33; refine (idx_in _ _ _).mono ?_; rintro e w' ⟨rfl, rfl⟩)
  go_ret
  exact ⟨rfl, rfl⟩

set_option maxRecDepth 100000 in
set_option maxHeartbeats 800000 in
theorem cutin_yes (s sep a b : ByteArray) (p : Nat) (w : World) (h1 : sep.size = 1) (hne : (sep.toList == s.toList) = false) (hi : Lib.indexByte s.data.toList sep[0] = (p : Int)) (hsz : s.size ≤ 10000) (hp : p < s.size) (ha : s.extract 0 p = a) (hb : s.extract (p + 1) s.size = b) :
    Calls Try.prog 30 #[.string s, .string sep] w fun e w' => e = .returned (.tuple #[.string a, .string b, .bool true]) ∧ ∃ q, w' = w.drewN q := by
  have H := idx1_any s sep w h1 hne
  rw [hi] at H
  have HH := hidd H
  clear hi H hne
  go_enter Try.func30, Try.ntmps30
  go_wp2_with fail
  refine HH.out.mono ?_
  rintro e w' ⟨rfl, hw'⟩
  have hw'' := hw'.symm
  subst hw''
  clear hw' HH
  go_wp2_with fail
  go_quiet (fail)
  go_wp2
  exact bodyPost_ret (v := .tuple #[.string a, .string b, .bool true]) (by simp [results, Try.results30, go_sem]) rfl ⟨rfl, _, rfl⟩

set_option maxRecDepth 100000 in
set_option maxHeartbeats 800000 in
theorem cutin_no (s sep : ByteArray) (w : World) (h1 : sep.size = 1) (hne : (sep.toList == s.toList) = false) (hi : Lib.indexByte s.data.toList sep[0] = -1) :
    Calls Try.prog 30 #[.string s, .string sep] w fun e w' => e = .returned (.tuple #[.string s, .string ⟨#[]⟩, .bool false]) ∧ w' = w := by
  have H := idx1_any s sep w h1 hne
  rw [hi] at H
  have HH := hidd H
  clear hi H hne
  go_enter Try.func30, Try.ntmps30
  go_wp2_with fail
  refine HH.out.mono ?_
  rintro e w' ⟨rfl, hw'⟩
  have hw'' := hw'.symm
  subst hw''
  clear hw' HH
  go_wp2_with fail
  exact bodyPost_ret (v := .tuple #[.string s, .string ⟨#[]⟩, .bool false]) (by simp [results, Try.results30, go_sem]) rfl ⟨rfl, rfl⟩

set_option maxRecDepth 100000 in
theorem cut_yes (s sep a b : ByteArray) (p : Nat) (w : World) (h1 : sep.size = 1) (hne : (sep.toList == s.toList) = false) (hi : Lib.indexByte s.data.toList sep[0] = (p : Int)) (hsz : s.size ≤ 10000) (hp : p < s.size) (ha : s.extract 0 p = a) (hb : s.extract (p + 1) s.size = b) :
    Calls Try.prog 25 #[.string s, .string sep] w fun e w' => e = .returned (.tuple #[.string a, .string b, .bool true]) ∧ ∃ q, w' = w.drewN q := by
  have HH := hidd (cutin_yes s sep a b p w h1 hne hi hsz hp ha hb)
  clear hi hne ha hb
  go_enter Try.func25, Try.ntmps25
  go_wp2_with fail
  refine HH.out.mono ?_
  rintro e w' ⟨rfl, q, rfl⟩
  go_wp2_with fail
  exact bodyPost_ret (v := .tuple #[.string a, .string b, .bool true]) (by simp [results, Try.results25, go_sem]) rfl ⟨rfl, _, rfl⟩
set_option maxRecDepth 100000 in
theorem cut_no (s sep : ByteArray) (w : World) (h1 : sep.size = 1) (hne : (sep.toList == s.toList) = false) (hi : Lib.indexByte s.data.toList sep[0] = -1) :
    Calls Try.prog 25 #[.string s, .string sep] w fun e w' => e = .returned (.tuple #[.string s, .string ⟨#[]⟩, .bool false]) ∧ w' = w := by
  have HH := hidd (cutin_no s sep w h1 hne hi)
  clear hi hne
  go_enter Try.func25, Try.ntmps25
  go_wp2_with fail
  refine HH.out.mono ?_
  rintro e w' ⟨rfl, hw'⟩
  have hw'' := hw'.symm
  subst hw''
  go_wp2_with fail
  exact bodyPost_ret (v := .tuple #[.string s, .string ⟨#[]⟩, .bool false]) (by simp [results, Try.results25, go_sem]) rfl ⟨rfl, rfl⟩

end Go.Proofs.Qxb6600803a
