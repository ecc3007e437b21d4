import Derived.Test.Qxb6600803aWalkG
namespace Go.Proofs.Qxb6600803a
open Go.RowKit Tm
set_option linter.unusedVariables false
set_option linter.unusedSimpArgs false

/-- the fraction's digits, the last zeros left out -/
def frL (n : Nat) : List Int := (dgt 9 n).take (trim (dgt 9 n) 9)
def C5 (h m : Nat) : List Int := dgt 2 h ++ [58] ++ dgt 2 m
def C6 (h m s : Nat) : List Int := dgt 2 h ++ [58] ++ dgt 2 m ++ [58] ++ dgt 2 s
def C7 (h m s n : Nat) : List Int := dgt 2 h ++ [58] ++ dgt 2 m ++ [58] ++ dgt 2 s ++ [46] ++ frL n

theorem frL_len (n : Nat) : (frL n).length ≤ 9 ∧ 0 < (frL n).length := by
  have h1 := trim_le (dgt 9 n) 9
  have h2 := trim_pos (dgt 9 n) 9 (by omega)
  have h3 := dgt_length 9 n
  unfold frL
  rw [List.length_take, h3]
  omega
theorem frL_NS {c : Int} (hc : c < 48 ∨ 57 < c) (n : Nat) : NS c (frL n) := (NS_dgt hc 9 n).take _

theorem fr_back (n : Nat) : (strOfNums (frL n) ++ ⟨#[48, 48, 48, 48, 48, 48, 48, 48, 48]⟩).extract 0 9 = strOfNums (dgt 9 n) := by
  apply ba_ext
  rw [Lib.extract_data]
  have e1 : (strOfNums (frL n) ++ (⟨#[48, 48, 48, 48, 48, 48, 48, 48, 48]⟩ : ByteArray)).data.toList = (frL n ++ List.replicate 9 48).map (fun x : Int => UInt8.ofNat x.toNat) := by
    rw [List.map_append, ← strOfNums_data]
    have : (strOfNums (frL n) ++ (⟨#[48, 48, 48, 48, 48, 48, 48, 48, 48]⟩ : ByteArray)).data = (strOfNums (frL n)).data ++ #[48, 48, 48, 48, 48, 48, 48, 48, 48] := by simp
    rw [this, Array.toList_append]
    rfl
  rw [e1, List.drop_zero, ← List.map_take, strOfNums_data]
  unfold frL
  rw [trim_back (dgt 9 n) 9 (dgt_length 9 n)]

theorem pow2 {x : Nat} (h : x ≤ 99) : x < 10 ^ 2 := by omega
theorem T4 (h : Nat) (w : World) (hh : h ≤ 23) : Calls Try.prog 18 #[.string (strOfNums (dgt 2 h))] w fun e w' => e = .returned (.tuple #[Tv 4 h 0 0, .bool true]) ∧ Below w.heap.size w w' :=
  pt4 _ h w (by omega) (by omega) (fld1 58 _ (NS_dgt (by omega) 2 h) (by rw [dgt_length]; omega)) (dig_dgt 2 h 2 rfl (by omega) (pow2 (by omega)))
theorem T5 (h m : Nat) (w : World) (hh : h ≤ 23) (hm : m ≤ 59) : Calls Try.prog 18 #[.string (strOfNums (C5 h m))] w fun e w' => e = .returned (.tuple #[Tv 5 h m 0, .bool true]) ∧ Below w.heap.size w w' :=
  pt5 _ _ _ h m w (by omega) (by omega) (by omega) (by omega) (fld2 58 (by omega) _ _ (NS_dgt (by omega) 2 h) (NS_dgt (by omega) 2 m) (by rw [dgt_length, dgt_length]; omega)) (dig_dgt 2 h 2 rfl (by omega) (pow2 (by omega))) (dig_dgt 2 m 2 rfl (by omega) (pow2 (by omega)))
theorem T6 (h m s : Nat) (w : World) (hh : h ≤ 23) (hm : m ≤ 59) (hs : s ≤ 60) : Calls Try.prog 18 #[.string (strOfNums (C6 h m s))] w fun e w' => e = .returned (.tuple #[Tv 6 h m ((s : Int) * 1000000000), .bool true]) ∧ Below w.heap.size w w' :=
  pt6 _ _ _ _ h m s w (by omega) (by omega) (by omega) (by omega) (by omega) (by omega) (fld3 58 (by omega) _ _ _ (NS_dgt (by omega) 2 h) (NS_dgt (by omega) 2 m) (NS_dgt (by omega) 2 s) (by rw [dgt_length, dgt_length, dgt_length]; omega)) (dig_dgt 2 h 2 rfl (by omega) (pow2 (by omega))) (dig_dgt 2 m 2 rfl (by omega) (pow2 (by omega)))
    (cut_none 46 (by omega) _ (NS_dgt (by omega) 2 s) (by rw [dgt_length]; omega)) (dig_dgt 2 s 2 rfl (by omega) (pow2 (by omega)))
theorem T7 (h m s n : Nat) (w : World) (hh : h ≤ 23) (hm : m ≤ 59) (hs : s ≤ 60) (hn : n ≤ 999999999) : Calls Try.prog 18 #[.string (strOfNums (C7 h m s n))] w fun e w' => e = .returned (.tuple #[Tv 6 h m ((s : Int) * 1000000000 + n), .bool true]) ∧ Below w.heap.size w w' := by
  have hfl := frL_len n
  have e : C7 h m s n = dgt 2 h ++ [58] ++ dgt 2 m ++ [58] ++ (dgt 2 s ++ [46] ++ frL n) := by unfold C7; simp
  rw [e]
  refine pt7 _ _ _ _ _ _ _ h m s n w (by omega) (by omega) (by omega) (by omega) (by omega) (by omega) (by omega) (by omega)
    (fld3 58 (by omega) _ _ _ (NS_dgt (by omega) 2 h) (NS_dgt (by omega) 2 m) (((NS_dgt (by omega) 2 s).append (NS.one (by omega) (by omega) (by omega))).append (frL_NS (by omega) n)) (by simp [dgt_length]; omega)) (dig_dgt 2 h 2 rfl (by omega) (pow2 (by omega))) (dig_dgt 2 m 2 rfl (by omega) (pow2 (by omega)))
    (cut_found 46 (by omega) _ _ (NS_dgt (by omega) 2 s) (by rw [dgt_length]; omega) (by rw [dgt_length]; omega)) (dig_dgt 2 s 2 rfl (by omega) (pow2 (by omega))) (by rw [strOfNums_size]; omega) ?_ (fr_back n) (dig_dgt 9 n 9 rfl (by omega) (by omega))
  rw [Lib.toList_data, strOfNums_data]
  cases hf : frL n with
  | nil => rw [hf] at hfl; simp at hfl
  | cons c l => rfl

set_option maxRecDepth 100000 in
theorem zto_any (k p y mo d h mi n o : Int) (z : Bool) (w : World) (hk : 0 ≤ k ∧ k ≤ 255) :
    Calls Try.prog 19 #[.agg #[.int .u8 k, .int .i64 p, .int .i64 y, .int .i64 mo, .int .i64 d, .int .i64 h, .int .i64 mi, .int .i64 n, .bool z, .int .i64 o]] w fun e w' => e = .returned (.agg #[.int .i64 k, .int .i64 p, .int .i64 y, .int .i64 mo, .int .i64 d, .int .i64 h, .int .i64 mi, .int .i64 n, .bool z, .int .i64 o]) ∧ Below w.heap.size w w' := by
  go_enter Try.func19, Try.ntmps19
  go_wp2
  refine bodyPost_ret (v := .agg #[.int .i64 k, .int .i64 p, .int .i64 y, .int .i64 mo, .int .i64 d, .int .i64 h, .int .i64 mi, .int .i64 n, .bool z, .int .i64 o]) (by simp [results, Try.results19, go_sem]) rfl ⟨rfl, ?_⟩
  exact ((Below.refl _ _).alloc (Nat.le_refl _) _).alloc (by simp) _

end Go.Proofs.Qxb6600803a
