import Derived.Test.Qxb6600543aWalkB
import Derived.Laws.BytesArg
import Derived.Lib.IndexBytes
namespace Go.Proofs.Qxb6600543a
open Go.RowKit Ex
set_option linter.unusedVariables false
set_option linter.unusedSimpArgs false

set_option maxRecDepth 100000 in
theorem zb_any (e : Int) (m : ByteArray) (k z : Int) (p : Bool) (w : World) (hm : m.size ≤ 9223372036854775807) :
    Calls Try.prog 11 #[.int .i64 e, .string m, .int .i64 k, .int .i64 z, .bool p] w fun e w' => e = .returned (.bool (decide (m.size ≤ 1048576))) ∧ w' = w := by
  by_cases h : m.size ≤ 1048576
  all_goals
    go_enter Try.func11, Try.ntmps11
    go_wp2
    go_ret
    exact ⟨ret_bool (by simp; omega), rfl⟩

theorem au_any' (base g k cap : Nat) (xs : List Int) (y : Int) (x : Nat) (hy : y = x) (w : World) (hx : x < 18446744073709551616) (hk : k ≤ 100000) (hcap : k + 20 ≤ cap) (hbase : base ≤ w.heap.size) (hown : w.ownsRow base 5 1 (.slice (some ⟨g, 0, none⟩) k cap) k (xs.map (Value.int .u8))) :
    Calls Try.prog 12 #[.slice (some ⟨g, 0, none⟩) k cap, .int .u64 y] w fun e w' => e = .returned (.slice (some ⟨g, 0, none⟩) (k + (lsd 20 x).length) cap) ∧ w'.ownsRow base 5 1 (.slice (some ⟨g, 0, none⟩) (k + (lsd 20 x).length) cap) (k + (lsd 20 x).length) ((xs ++ (lsd 20 x).reverse).map (Value.int .u8)) ∧ w.grownBy w' (some g) := by
  subst hy; exact au_any base g k cap xs x w hx hk hcap hbase hown

theorem ba_ext {a b : ByteArray} (h : a.data.toList = b.data.toList) : a = b := by
  cases a; cases b; congr 1; exact Array.toList_inj.1 h
theorem son_tail (a : Int) (l : List Int) : (strOfNums (a :: l)).extract 1 (strOfNums (a :: l)).size = strOfNums l := by
  apply ba_ext
  rw [Lib.extract_to_end, strOfNums_data, strOfNums_data]
  rfl
theorem son_get (l : List Int) (i : Nat) (h : i < (strOfNums l).size) : (strOfNums l)[i] = u8 (l[i]'(by rw [strOfNums_size] at h; exact h)) := by
  have h2 : i < (strOfNums l).data.toList.length := by simpa using h
  have e : (strOfNums l)[i] = (strOfNums l).data.toList[i] := rfl
  rw [e]
  simp [strOfNums_data, u8]
theorem u8_small {x : Int} (h0 : 0 ≤ x) (h1 : x ≤ 255) : ((u8 x).toNat : Int) = x := by
  unfold u8; rw [UInt8.toNat_ofNat']; omega
theorem u8_byte (c : UInt8) : u8 (c.toNat : Int) = c := by unfold u8; simp

theorem idx_pos (mark : ByteArray) (k : Nat) (hk : k < mark.size) : 0 ≤ Lib.indexByte mark.data.toList ((mark[k].toNat : Int)).toNat.toUInt8 := by
  have e : ((mark[k].toNat : Int)).toNat.toUInt8 = mark[k] := by simp
  rw [e]
  have h1 := Lib.indexByte_ge mark.data.toList mark[k]
  by_cases h : Lib.indexByte mark.data.toList mark[k] = -1
  · exfalso
    refine Lib.indexByte_none h k ?_
    rw [List.getElem?_eq_getElem (by simpa using hk)]
    rfl
  · omega

/-- the sign's bytes -/
def sgl (neg plus : Bool) : List Int := if neg then [45] else if plus then [43] else []

set_option maxRecDepth 100000 in
theorem read_any (mark : ByteArray) (k z x : Nat) (neg plus : Bool) (w : World) (hk : k < mark.size) (hz : z ≤ 4096) (hx : x < 18446744073709551616) :
    Calls Try.prog 9 #[.string (strOfNums ((mark[k].toNat : Int) :: (sgl neg plus ++ (List.replicate z 48 ++ (lsd 20 x).reverse)))), .string mark] w fun e w' => e = .returned (.tuple #[.int .i64 (if neg then -(min (x : Int) 1000000000) else min (x : Int) 1000000000), .bool true]) ∧ w' = w := by
  have hl := lsd_length 20 x
  have hl1 : 0 < (lsd 20 x).length := by rw [lsd_ne]; simp
  have hds : ∀ y ∈ List.replicate z (48 : Int) ++ (lsd 20 x).reverse, 48 ≤ y ∧ y ≤ 57 := by
    intro y hy
    rcases List.mem_append.1 hy with h | h
    · have := List.eq_of_mem_replicate h; omega
    · exact lsd_dig 20 x y (List.mem_reverse.1 h)
  have hev : ev (strOfNums (List.replicate z (48 : Int) ++ (lsd 20 x).reverse)).data.toList 0 = min (x : Int) 1000000000 := by
    rw [strOfNums_data]
    show ev ((List.replicate z (48 : Int) ++ (lsd 20 x).reverse).map u8) 0 = _
    rw [List.map_append, List.map_replicate, show u8 48 = 48 from by decide, ev_zeros]
    exact ev_lsd 20 x (Nat.lt_of_lt_of_le hx (by decide))
  obtain ⟨ds, hD⟩ : ∃ ds, ds = List.replicate z (48 : Int) ++ (lsd 20 x).reverse := ⟨_, rfl⟩
  have hdl : ds.length = z + (lsd 20 x).length := by rw [hD]; simp
  rw [← hD] at hds hev ⊢
  rw [← hev]
  have hsl : (sgl neg plus).length ≤ 1 := by unfold sgl; split; simp; split <;> simp
  have hs1 : 0 < (strOfNums (sgl neg plus ++ ds)).size := by rw [strOfNums_size, List.length_append]; omega
  refine zpe_any _ (strOfNums (sgl neg plus ++ ds)) (strOfNums ds) mark neg w ?_ ?_ ?_ (son_tail _ _) hs1 ?_ ?_ ?_ ?_
  · rw [strOfNums_size]; simp
  · rw [strOfNums_size]; simp; omega
  · rw [son_get]
    show 0 ≤ Lib.indexByte mark.data.toList (((u8 (mark[k].toNat : Int)).toNat : Int)).toNat.toUInt8
    rw [u8_byte]
    exact idx_pos mark k hk
  · cases neg with
    | true => exact .inl ⟨by rw [son_get]; show ((u8 45).toNat : Int) = 45; decide, son_tail 45 ds, rfl⟩
    | false =>
      cases plus with
      | true => exact .inr (.inl ⟨by rw [son_get]; show ((u8 43).toNat : Int) = 43; decide, son_tail 43 ds, rfl⟩)
      | false => exact .inr (.inr ⟨rfl, rfl⟩)
  · rw [strOfNums_size]; omega
  · rw [strOfNums_size]; omega
  · intro i hi
    rw [son_get]
    have hm := hds (ds[i]'(by rw [strOfNums_size] at hi; exact hi)) (List.getElem_mem _)
    rw [u8_small (by omega) (by omega)]
    exact hm

theorem hidd {p : Prop} (h : p) : Hid p := h

set_option maxRecDepth 100000 in
set_option maxHeartbeats 3200000 in
theorem law_neg (e : Int) (mark : ByteArray) (k z : Nat) (plus : Bool) (w : World) (he1 : -9223372036854775808 ≤ e) (he2 : e ≤ 9223372036854775807) (hm : mark.size ≤ 65536) (hk : k < mark.size) (hz : z ≤ 4096) (hneg : e < 0) :
    Calls Try.prog 4 #[.int .i64 e, .string mark, .int .i64 k, .int .i64 z, .bool plus] w fun e w' => e = .returned (.bool true) ∧ Below w.heap.size w w' := by
  obtain ⟨i0, hi, hz0, hz1, hz2⟩ := info_parts info5
  have hdec : decide (mark.size ≤ 1048576) = true := by simp; omega
  have f1 : decide ((65536 : Int) < mark.size) = false := by simp; omega
  have f2 : decide ((k : Int) < 0) = false := by simp
  have f3 : decide ((z : Int) < 0) = false := by simp
  have f4 : decide ((4096 : Int) < z) = false := by simp; omega
  obtain ⟨x, hx⟩ : ∃ x : Nat, (-(e + 1) + 1) = x := ⟨((-(e + 1) + 1)).toNat, by omega⟩
  have hxx : x < 18446744073709551616 := by omega
  have HX : Hid ((-(e + 1) + 1) = x) := hx
  clear hx
  have hlx := lsd_length 20 x
  have HLX : Hid ((lsd 20 x).length ≤ 20) := hlx
  clear hlx
  go_enter Try.func4, Try.ntmps4
  go_wp2_with (first
    | (go_at_call 11; refine (zb_any _ _ _ _ _ _ (by omega)).mono ?_; rintro e w' ⟨rfl, hw'⟩; have hw'' := hw'.symm; subst hw'')
    | (at_make; refine wpList_make_own _ rfl _ _ 27 rfl w.heap.size 5 i0 (.int .u8 0) 1 Try.underlying27 hi hz0 hz1 _ _ _ (z + 24) rfl rfl (by omega) (by rw [hz2]; omega) (by unfold maxLen; omega) (Nat.le_refl _) ?_; intro w0 hown0 hgrow0)
    | (at_builtin; refine wpList_append_fits _ rfl (.tmp 58) (.tmp 62) 27 rfl w.heap.size 5 i0 1 Try.underlying27 hi hz1 w.heap.size 0 (z + 24) _ rfl (hown0.alloc _) ⟨w0.heap.size, 0, none⟩ 1 1 [.int .u8 (mark[k].toNat : Int)] rfl rfl (cell_one_new _ _ _) (by intro u hu; simp at hu; subst hu; rfl) (by omega) ?_; intro w1 hown1 hgrow1; simp only [Nat.zero_add, List.nil_append] at hown1)
    | (at_builtin; refine wpList_append_fits _ rfl (.tmp 65) (.tmp 66) 27 rfl w.heap.size 5 i0 1 Try.underlying27 hi hz1 w.heap.size 1 (z + 24) _ rfl (hown1.alloc _) ⟨w1.heap.size, 0, none⟩ 1 1 [.int .u8 45] rfl rfl (cell_one_new _ _ _) (by intro u hu; simp at hu; subst hu; rfl) (by omega) ?_; intro w2 hown2 hgrow2))
  have hB0 : Below w.heap.size w w0 := (Below.refl _ _).grown hgrow0 (Nat.le_refl _) (fun k h => by cases h)
  have hB1 : Below w.heap.size w w1 := (hB0.alloc hB0.size _).grown hgrow1 (by have := hB0.size; simp; omega) (fun k h => by cases h; exact Nat.le_refl _)
  have hB2 : Below w.heap.size w w2 := (hB1.alloc hB1.size _).grown hgrow2 (by have := hB1.size; simp; omega) (fun k h => by cases h; exact Nat.le_refl _)
  have HB : Hid (Below w.heap.size w w2) := hB2
  have HOW : Hid (w2.ownsRow w.heap.size 5 1 (.slice (some ⟨w.heap.size, 0, none⟩) 2 (z + 24)) 2 (((mark[k].toNat : Int) :: sgl true plus).map (Value.int .u8))) := by show World.ownsRow _ _ _ _ _ _ _; simpa [sgl] using hown2
  clear hown0 hown1 hgrow0 hgrow1 hB0 hB1 hown2 hgrow2 hB2
  go_loopw [14, 15] (fun vb vz wr => ∃ (m n : Nat), m ≤ z ∧ n ≤ 2 + m ∧ 2 + m ≤ n ∧ vz = .int .i64 m ∧ vb = .slice (some ⟨w.heap.size, 0, none⟩) n (z + 24) ∧ Hid (wr.ownsRow w.heap.size 5 1 (.slice (some ⟨w.heap.size, 0, none⟩) n (z + 24)) n (((mark[k].toNat : Int) :: (sgl true plus ++ List.replicate m 48)).map (Value.int .u8))) ∧ Hid (Below w.heap.size w wr)) (fun _ vz _ => z - (intOf vz).toNat)
  case atStart => exact ⟨0, 2, by omega, by omega, by omega, rfl, rfl, by simpa using HOW, HB⟩
  case round =>
    obtain ⟨m, n, hmz, hn1, hn2, rfl, rfl, how, hbl⟩ := hrel
    clear HOW HB
    have hown := how.out
    by_cases hlt : m < z
    · go_wp2_with (at_builtin; refine wpList_append_fits _ rfl (.tmp 77) (.tmp 78) 27 rfl w.heap.size 5 i0 1 Try.underlying27 hi hz1 w.heap.size n (z + 24) _ rfl (hown.alloc _) ⟨wr.heap.size, 0, none⟩ 1 1 [.int .u8 48] rfl rfl (cell_one_new _ _ _) (by intro u hu; simp at hu; subst hu; rfl) (by omega) ?_; intro w3 hown3 hgrow3)
      go_roundw
      case rel =>
        refine ⟨m + 1, n + 1, by omega, by omega, by omega, by go_num, rfl, ?_, (hbl.out.alloc hbl.out.size _).grown hgrow3 (by have := hbl.out.size; simp; omega) (fun k h => by cases h; exact Nat.le_refl _)⟩
        show World.ownsRow _ _ _ _ _ _ _
        have e1 : List.replicate (m + 1) (48 : Int) = List.replicate m 48 ++ [48] := List.replicate_succ'
        rw [e1]
        simpa using hown3
      case measure => simp [intOf]; omega
    · have hmz' : m = z := by omega
      have HN : Hid (n = 2 + z) := by show n = _; omega
      rw [hmz'] at hown
      have HOW : Hid (wr.ownsRow w.heap.size 5 1 (.slice (some ⟨w.heap.size, 0, none⟩) n (z + 24)) n (((mark[k].toNat : Int) :: (sgl true plus ++ List.replicate z 48)).map (Value.int .u8))) := hown
      clear hmz' hown how
      have hwr : w.heap.size ≤ wr.heap.size := hbl.out.size
      go_wp2_with fail
      refine (au_any' w.heap.size w.heap.size n (z + 24) _ _ x HX.out _ hxx (by omega) (by omega) hwr HOW.out).mono ?_
      rintro e w4 ⟨rfl, hown4, hgrow4⟩
      have hB4 : Below w.heap.size w w4 := hbl.out.grown hgrow4 hwr (fun k h => by cases h; exact Nat.le_refl _)
      have HB4 : Hid (Below w.heap.size w w4) := hB4
      have eL : ((mark[k].toNat : Int) :: (sgl true plus ++ List.replicate z 48)) ++ (lsd 20 x).reverse = (mark[k].toNat : Int) :: (sgl true plus ++ (List.replicate z 48 ++ (lsd 20 x).reverse)) := by simp
      rw [eL] at hown4
      obtain ⟨L, hL⟩ : ∃ L, L = (mark[k].toNat : Int) :: (sgl true plus ++ (List.replicate z 48 ++ (lsd 20 x).reverse)) := ⟨_, rfl⟩
      obtain ⟨nn, hnn⟩ : ∃ nn, nn = n + (lsd 20 x).length := ⟨_, rfl⟩
      rw [← hL, ← hnn] at hown4
      rw [← hnn]
      have hLl : L.length = nn := by have := hown4.1; simpa using this
      have hconv := run_convert_bytes_arg w4 (P := Try.prog) 27 5 Try.underlying27 Try.underlying5 w.heap.size 0 nn (z + 24) L hLl (fun i hi => by
        have := hown4.cellAt i (by omega)
        rw [Nat.zero_add, this]
        simp [List.getD_eq_getElem?_getD, show i < L.length by omega]) 9 Try.underlying9
      have hread := read_any mark k z x true plus w4 hk hz hxx
      rw [← hL] at hread
      have HRD := hidd hread
      clear hown4 hgrow4 hB4 eL hL hnn hLl hread HOW hbl
      by_cases hcl : (-(e + 1) + 1) < 1000000000
      all_goals
        go_wp2_with fail
        refine HRD.out.mono ?_
        rintro e w5 ⟨rfl, rfl⟩
        go_wp2_with fail
        go_ret
        exact ⟨ret_bool (by have := HX.out; simp; omega), HB4.out⟩

set_option maxRecDepth 100000 in
set_option maxHeartbeats 3200000 in
theorem law_plus (e : Int) (mark : ByteArray) (k z : Nat) (w : World) (he1 : -9223372036854775808 ≤ e) (he2 : e ≤ 9223372036854775807) (hm : mark.size ≤ 65536) (hk : k < mark.size) (hz : z ≤ 4096) (hneg : ¬ e < 0) :
    Calls Try.prog 4 #[.int .i64 e, .string mark, .int .i64 k, .int .i64 z, .bool true] w fun e w' => e = .returned (.bool true) ∧ Below w.heap.size w w' := by
  obtain ⟨i0, hi, hz0, hz1, hz2⟩ := info_parts info5
  have hdec : decide (mark.size ≤ 1048576) = true := by simp; omega
  have f1 : decide ((65536 : Int) < mark.size) = false := by simp; omega
  have f2 : decide ((k : Int) < 0) = false := by simp
  have f3 : decide ((z : Int) < 0) = false := by simp
  have f4 : decide ((4096 : Int) < z) = false := by simp; omega
  obtain ⟨x, hx⟩ : ∃ x : Nat, e = x := ⟨(e).toNat, by omega⟩
  have hxx : x < 18446744073709551616 := by omega
  have HX : Hid (e = x) := hx
  clear hx
  have hlx := lsd_length 20 x
  have HLX : Hid ((lsd 20 x).length ≤ 20) := hlx
  clear hlx
  go_enter Try.func4, Try.ntmps4
  go_wp2_with (first
    | (go_at_call 11; refine (zb_any _ _ _ _ _ _ (by omega)).mono ?_; rintro e w' ⟨rfl, hw'⟩; have hw'' := hw'.symm; subst hw'')
    | (at_make; refine wpList_make_own _ rfl _ _ 27 rfl w.heap.size 5 i0 (.int .u8 0) 1 Try.underlying27 hi hz0 hz1 _ _ _ (z + 24) rfl rfl (by omega) (by rw [hz2]; omega) (by unfold maxLen; omega) (Nat.le_refl _) ?_; intro w0 hown0 hgrow0)
    | (at_builtin; refine wpList_append_fits _ rfl (.tmp 58) (.tmp 62) 27 rfl w.heap.size 5 i0 1 Try.underlying27 hi hz1 w.heap.size 0 (z + 24) _ rfl (hown0.alloc _) ⟨w0.heap.size, 0, none⟩ 1 1 [.int .u8 (mark[k].toNat : Int)] rfl rfl (cell_one_new _ _ _) (by intro u hu; simp at hu; subst hu; rfl) (by omega) ?_; intro w1 hown1 hgrow1; simp only [Nat.zero_add, List.nil_append] at hown1)
    | (at_builtin; refine wpList_append_fits _ rfl (.tmp 69) (.tmp 70) 27 rfl w.heap.size 5 i0 1 Try.underlying27 hi hz1 w.heap.size 1 (z + 24) _ rfl (hown1.alloc _) ⟨w1.heap.size, 0, none⟩ 1 1 [.int .u8 43] rfl rfl (cell_one_new _ _ _) (by intro u hu; simp at hu; subst hu; rfl) (by omega) ?_; intro w2 hown2 hgrow2))
  have hB0 : Below w.heap.size w w0 := (Below.refl _ _).grown hgrow0 (Nat.le_refl _) (fun k h => by cases h)
  have hB1 : Below w.heap.size w w1 := (hB0.alloc hB0.size _).grown hgrow1 (by have := hB0.size; simp; omega) (fun k h => by cases h; exact Nat.le_refl _)
  have hB2 : Below w.heap.size w w2 := (hB1.alloc hB1.size _).grown hgrow2 (by have := hB1.size; simp; omega) (fun k h => by cases h; exact Nat.le_refl _)
  have HB : Hid (Below w.heap.size w w2) := hB2
  have HOW : Hid (w2.ownsRow w.heap.size 5 1 (.slice (some ⟨w.heap.size, 0, none⟩) 2 (z + 24)) 2 (((mark[k].toNat : Int) :: sgl false true).map (Value.int .u8))) := by show World.ownsRow _ _ _ _ _ _ _; simpa [sgl] using hown2
  clear hown0 hown1 hgrow0 hgrow1 hB0 hB1 hown2 hgrow2 hB2
  go_loopw [14, 15] (fun vb vz wr => ∃ (m n : Nat), m ≤ z ∧ n ≤ 2 + m ∧ 2 + m ≤ n ∧ vz = .int .i64 m ∧ vb = .slice (some ⟨w.heap.size, 0, none⟩) n (z + 24) ∧ Hid (wr.ownsRow w.heap.size 5 1 (.slice (some ⟨w.heap.size, 0, none⟩) n (z + 24)) n (((mark[k].toNat : Int) :: (sgl false true ++ List.replicate m 48)).map (Value.int .u8))) ∧ Hid (Below w.heap.size w wr)) (fun _ vz _ => z - (intOf vz).toNat)
  case atStart => exact ⟨0, 2, by omega, by omega, by omega, rfl, rfl, by simpa using HOW, HB⟩
  case round =>
    obtain ⟨m, n, hmz, hn1, hn2, rfl, rfl, how, hbl⟩ := hrel
    clear HOW HB
    have hown := how.out
    by_cases hlt : m < z
    · go_wp2_with (at_builtin; refine wpList_append_fits _ rfl (.tmp 77) (.tmp 78) 27 rfl w.heap.size 5 i0 1 Try.underlying27 hi hz1 w.heap.size n (z + 24) _ rfl (hown.alloc _) ⟨wr.heap.size, 0, none⟩ 1 1 [.int .u8 48] rfl rfl (cell_one_new _ _ _) (by intro u hu; simp at hu; subst hu; rfl) (by omega) ?_; intro w3 hown3 hgrow3)
      go_roundw
      case rel =>
        refine ⟨m + 1, n + 1, by omega, by omega, by omega, by go_num, rfl, ?_, (hbl.out.alloc hbl.out.size _).grown hgrow3 (by have := hbl.out.size; simp; omega) (fun k h => by cases h; exact Nat.le_refl _)⟩
        show World.ownsRow _ _ _ _ _ _ _
        have e1 : List.replicate (m + 1) (48 : Int) = List.replicate m 48 ++ [48] := List.replicate_succ'
        rw [e1]
        simpa using hown3
      case measure => simp [intOf]; omega
    · have hmz' : m = z := by omega
      have HN : Hid (n = 2 + z) := by show n = _; omega
      rw [hmz'] at hown
      have HOW : Hid (wr.ownsRow w.heap.size 5 1 (.slice (some ⟨w.heap.size, 0, none⟩) n (z + 24)) n (((mark[k].toNat : Int) :: (sgl false true ++ List.replicate z 48)).map (Value.int .u8))) := hown
      clear hmz' hown how
      have hwr : w.heap.size ≤ wr.heap.size := hbl.out.size
      go_wp2_with fail
      refine (au_any' w.heap.size w.heap.size n (z + 24) _ _ x HX.out _ hxx (by omega) (by omega) hwr HOW.out).mono ?_
      rintro e w4 ⟨rfl, hown4, hgrow4⟩
      have hB4 : Below w.heap.size w w4 := hbl.out.grown hgrow4 hwr (fun k h => by cases h; exact Nat.le_refl _)
      have HB4 : Hid (Below w.heap.size w w4) := hB4
      have eL : ((mark[k].toNat : Int) :: (sgl false true ++ List.replicate z 48)) ++ (lsd 20 x).reverse = (mark[k].toNat : Int) :: (sgl false true ++ (List.replicate z 48 ++ (lsd 20 x).reverse)) := by simp
      rw [eL] at hown4
      obtain ⟨L, hL⟩ : ∃ L, L = (mark[k].toNat : Int) :: (sgl false true ++ (List.replicate z 48 ++ (lsd 20 x).reverse)) := ⟨_, rfl⟩
      obtain ⟨nn, hnn⟩ : ∃ nn, nn = n + (lsd 20 x).length := ⟨_, rfl⟩
      rw [← hL, ← hnn] at hown4
      rw [← hnn]
      have hLl : L.length = nn := by have := hown4.1; simpa using this
      have hconv := run_convert_bytes_arg w4 (P := Try.prog) 27 5 Try.underlying27 Try.underlying5 w.heap.size 0 nn (z + 24) L hLl (fun i hi => by
        have := hown4.cellAt i (by omega)
        rw [Nat.zero_add, this]
        simp [List.getD_eq_getElem?_getD, show i < L.length by omega]) 9 Try.underlying9
      have hread := read_any mark k z x false true w4 hk hz hxx
      rw [← hL] at hread
      have HRD := hidd hread
      clear hown4 hgrow4 hB4 eL hL hnn hLl hread HOW hbl
      by_cases hcl : e < 1000000000
      all_goals
        go_wp2_with fail
        refine HRD.out.mono ?_
        rintro e w5 ⟨rfl, rfl⟩
        go_wp2_with fail
        go_ret
        exact ⟨ret_bool (by have := HX.out; simp; omega), HB4.out⟩

set_option maxRecDepth 100000 in
set_option maxHeartbeats 3200000 in
theorem law_none (e : Int) (mark : ByteArray) (k z : Nat) (w : World) (he1 : -9223372036854775808 ≤ e) (he2 : e ≤ 9223372036854775807) (hm : mark.size ≤ 65536) (hk : k < mark.size) (hz : z ≤ 4096) (hneg : ¬ e < 0) :
    Calls Try.prog 4 #[.int .i64 e, .string mark, .int .i64 k, .int .i64 z, .bool false] w fun e w' => e = .returned (.bool true) ∧ Below w.heap.size w w' := by
  obtain ⟨i0, hi, hz0, hz1, hz2⟩ := info_parts info5
  have hdec : decide (mark.size ≤ 1048576) = true := by simp; omega
  have f1 : decide ((65536 : Int) < mark.size) = false := by simp; omega
  have f2 : decide ((k : Int) < 0) = false := by simp
  have f3 : decide ((z : Int) < 0) = false := by simp
  have f4 : decide ((4096 : Int) < z) = false := by simp; omega
  obtain ⟨x, hx⟩ : ∃ x : Nat, e = x := ⟨(e).toNat, by omega⟩
  have hxx : x < 18446744073709551616 := by omega
  have HX : Hid (e = x) := hx
  clear hx
  have hlx := lsd_length 20 x
  have HLX : Hid ((lsd 20 x).length ≤ 20) := hlx
  clear hlx
  go_enter Try.func4, Try.ntmps4
  go_wp2_with (first
    | (go_at_call 11; refine (zb_any _ _ _ _ _ _ (by omega)).mono ?_; rintro e w' ⟨rfl, hw'⟩; have hw'' := hw'.symm; subst hw'')
    | (at_make; refine wpList_make_own _ rfl _ _ 27 rfl w.heap.size 5 i0 (.int .u8 0) 1 Try.underlying27 hi hz0 hz1 _ _ _ (z + 24) rfl rfl (by omega) (by rw [hz2]; omega) (by unfold maxLen; omega) (Nat.le_refl _) ?_; intro w0 hown0 hgrow0)
    | (at_builtin; refine wpList_append_fits _ rfl (.tmp 58) (.tmp 62) 27 rfl w.heap.size 5 i0 1 Try.underlying27 hi hz1 w.heap.size 0 (z + 24) _ rfl (hown0.alloc _) ⟨w0.heap.size, 0, none⟩ 1 1 [.int .u8 (mark[k].toNat : Int)] rfl rfl (cell_one_new _ _ _) (by intro u hu; simp at hu; subst hu; rfl) (by omega) ?_; intro w1 hown1 hgrow1; simp only [Nat.zero_add, List.nil_append] at hown1))
  have hB0 : Below w.heap.size w w0 := (Below.refl _ _).grown hgrow0 (Nat.le_refl _) (fun k h => by cases h)
  have hB1 : Below w.heap.size w w1 := (hB0.alloc hB0.size _).grown hgrow1 (by have := hB0.size; simp; omega) (fun k h => by cases h; exact Nat.le_refl _)
  have HB : Hid (Below w.heap.size w w1) := hB1
  have HOW : Hid (w1.ownsRow w.heap.size 5 1 (.slice (some ⟨w.heap.size, 0, none⟩) 1 (z + 24)) 1 (((mark[k].toNat : Int) :: sgl false false).map (Value.int .u8))) := by show World.ownsRow _ _ _ _ _ _ _; simpa [sgl] using hown1
  clear hown0 hown1 hgrow0 hgrow1 hB0 hB1
  go_loopw [14, 15] (fun vb vz wr => ∃ (m n : Nat), m ≤ z ∧ n ≤ 1 + m ∧ 1 + m ≤ n ∧ vz = .int .i64 m ∧ vb = .slice (some ⟨w.heap.size, 0, none⟩) n (z + 24) ∧ Hid (wr.ownsRow w.heap.size 5 1 (.slice (some ⟨w.heap.size, 0, none⟩) n (z + 24)) n (((mark[k].toNat : Int) :: (sgl false false ++ List.replicate m 48)).map (Value.int .u8))) ∧ Hid (Below w.heap.size w wr)) (fun _ vz _ => z - (intOf vz).toNat)
  case atStart => exact ⟨0, 1, by omega, by omega, by omega, rfl, rfl, by simpa using HOW, HB⟩
  case round =>
    obtain ⟨m, n, hmz, hn1, hn2, rfl, rfl, how, hbl⟩ := hrel
    clear HOW HB
    have hown := how.out
    by_cases hlt : m < z
    · go_wp2_with (at_builtin; refine wpList_append_fits _ rfl (.tmp 77) (.tmp 78) 27 rfl w.heap.size 5 i0 1 Try.underlying27 hi hz1 w.heap.size n (z + 24) _ rfl (hown.alloc _) ⟨wr.heap.size, 0, none⟩ 1 1 [.int .u8 48] rfl rfl (cell_one_new _ _ _) (by intro u hu; simp at hu; subst hu; rfl) (by omega) ?_; intro w3 hown3 hgrow3)
      go_roundw
      case rel =>
        refine ⟨m + 1, n + 1, by omega, by omega, by omega, by go_num, rfl, ?_, (hbl.out.alloc hbl.out.size _).grown hgrow3 (by have := hbl.out.size; simp; omega) (fun k h => by cases h; exact Nat.le_refl _)⟩
        show World.ownsRow _ _ _ _ _ _ _
        have e1 : List.replicate (m + 1) (48 : Int) = List.replicate m 48 ++ [48] := List.replicate_succ'
        rw [e1]
        simpa using hown3
      case measure => simp [intOf]; omega
    · have hmz' : m = z := by omega
      have HN : Hid (n = 1 + z) := by show n = _; omega
      rw [hmz'] at hown
      have HOW : Hid (wr.ownsRow w.heap.size 5 1 (.slice (some ⟨w.heap.size, 0, none⟩) n (z + 24)) n (((mark[k].toNat : Int) :: (sgl false false ++ List.replicate z 48)).map (Value.int .u8))) := hown
      clear hmz' hown how
      have hwr : w.heap.size ≤ wr.heap.size := hbl.out.size
      go_wp2_with fail
      refine (au_any' w.heap.size w.heap.size n (z + 24) _ _ x HX.out _ hxx (by omega) (by omega) hwr HOW.out).mono ?_
      rintro e w4 ⟨rfl, hown4, hgrow4⟩
      have hB4 : Below w.heap.size w w4 := hbl.out.grown hgrow4 hwr (fun k h => by cases h; exact Nat.le_refl _)
      have HB4 : Hid (Below w.heap.size w w4) := hB4
      have eL : ((mark[k].toNat : Int) :: (sgl false false ++ List.replicate z 48)) ++ (lsd 20 x).reverse = (mark[k].toNat : Int) :: (sgl false false ++ (List.replicate z 48 ++ (lsd 20 x).reverse)) := by simp
      rw [eL] at hown4
      obtain ⟨L, hL⟩ : ∃ L, L = (mark[k].toNat : Int) :: (sgl false false ++ (List.replicate z 48 ++ (lsd 20 x).reverse)) := ⟨_, rfl⟩
      obtain ⟨nn, hnn⟩ : ∃ nn, nn = n + (lsd 20 x).length := ⟨_, rfl⟩
      rw [← hL, ← hnn] at hown4
      rw [← hnn]
      have hLl : L.length = nn := by have := hown4.1; simpa using this
      have hconv := run_convert_bytes_arg w4 (P := Try.prog) 27 5 Try.underlying27 Try.underlying5 w.heap.size 0 nn (z + 24) L hLl (fun i hi => by
        have := hown4.cellAt i (by omega)
        rw [Nat.zero_add, this]
        simp [List.getD_eq_getElem?_getD, show i < L.length by omega]) 9 Try.underlying9
      have hread := read_any mark k z x false false w4 hk hz hxx
      rw [← hL] at hread
      have HRD := hidd hread
      clear hown4 hgrow4 hB4 eL hL hnn hLl hread HOW hbl
      by_cases hcl : e < 1000000000
      all_goals
        go_wp2_with fail
        refine HRD.out.mono ?_
        rintro e w5 ⟨rfl, rfl⟩
        go_wp2_with fail
        go_ret
        exact ⟨ret_bool (by have := HX.out; simp; omega), HB4.out⟩

end Go.Proofs.Qxb6600543a
