import Derived.Test.Qxb6600803aWalkO
import Derived.Test.Qxb6600803aWalkP
import Derived.Test.Qxb6600803aWalkQ
namespace Go.Proofs.Qxb6600803a
open Go.RowKit Tm
set_option linter.unusedVariables false
set_option linter.unusedSimpArgs false

/-- parseDateTime reads that temporal out of that text -/
def PD (l : List Int) (k p y mo d h mi n : Int) (z : Bool) (o : Int) : Prop := ∀ w, Calls Try.prog 22 #[.string (strOfNums l)] w fun e w' => e = .returned (.tuple #[Uv k p y mo d h mi n z o, .bool true]) ∧ Below w.heap.size w w'

set_option maxRecDepth 100000 in
set_option maxHeartbeats 1000000 in
theorem zpd_any (l : List Int) (k p y mo d h mi n o : Int) (z : Bool) (w : World) (hk : 0 ≤ k ∧ k ≤ 255) (H : PD l k p y mo d h mi n z o) :
    Calls Try.prog 13 #[.string (strOfNums l)] w fun e w' => e = .returned (.tuple #[Zv k p y mo d h mi n z o, .bool true]) ∧ Below w.heap.size w w' := by
  have HR : Hid ((w.alloc (.cells #[.int .i64 0, .int .i64 0, .int .i64 0, .int .i64 0, .int .i64 0, .int .i64 0, .int .i64 0, .int .i64 0, .bool false, .int .i64 0] 24)).rowIs w.heap.size 24 10 (vec10 (.int .i64 0) (.int .i64 0) (.int .i64 0) (.int .i64 0) (.int .i64 0) (.int .i64 0) (.int .i64 0) (.int .i64 0) (.bool false) (.int .i64 0))) := row10_alloc w _ _ _ _ _ _ _ _ _ _ 24
  have HB : Hid (Below w.heap.size w (w.alloc (.cells #[.int .i64 0, .int .i64 0, .int .i64 0, .int .i64 0, .int .i64 0, .int .i64 0, .int .i64 0, .int .i64 0, .bool false, .int .i64 0] 24))) := (Below.refl _ _).alloc (Nat.le_refl _) _
  have HH := hidd H
  clear H
  go_enter Try.func13, Try.ntmps13
  go_wp2_with fail
  refine (HH.out _).mono ?_
  rintro e w1 ⟨rfl, hb⟩
  have HR1 := hidd (row_below HR.out hb)
  have HB1 := hidd (HB.out.trans (hb.mono HB.out.size))
  clear hb HR HB
  unfold Uv
  go_wp2_with fail
  refine (zto_any k p y mo d h mi n o z _ hk).mono ?_
  rintro e w2 ⟨rfl, hb⟩
  have hR := row_below (HR1.out.alloc _) hb
  have HB2 := hidd ((HB1.out.alloc HB1.out.size _).trans (hb.mono (by have := HB1.out.size; simp; omega)))
  obtain ⟨rr0, rr1, rr2, rr3, rr4, rr5, rr6, rr7, rr8, rr9, rrf⟩ := facts10 hR
  clear hb hR HR1 HB1
  go_wp2_with fail
  refine bodyPost_ret (v := .tuple #[.agg #[.int .i64 k, .int .i64 p, .int .i64 y, .int .i64 mo, .int .i64 d, .int .i64 h, .int .i64 mi, .int .i64 n, .bool z, .int .i64 o], .bool true]) (by rw [results_cell_tmp rfl]; go_simp) rfl ⟨rfl, ?_⟩
  iterate 10 refine Below.setCell ?_ (by simp) _
  exact HB2.out

/-- the dates' texts -/
def dt2 (y mo : Nat) : List Int := dgt 4 y ++ [45] ++ dgt 2 mo
def dt3 (y mo d : Nat) : List Int := dgt 4 y ++ [45] ++ dgt 2 mo ++ [45] ++ dgt 2 d
theorem dt2_NS {c : Int} (hc : c < 45 ∨ 57 < c) (y mo : Nat) : NS c (dt2 y mo) := ((NS_dgt (by omega) 4 y).append (NS.one (by omega) (by omega) (by omega))).append (NS_dgt (by omega) 2 mo)
theorem dt3_NS {c : Int} (hc : c < 45 ∨ 57 < c) (y mo d : Nat) : NS c (dt3 y mo d) := ((dt2_NS hc y mo).append (NS.one (by omega) (by omega) (by omega))).append (NS_dgt (by omega) 2 d)
theorem dt2_len (y mo : Nat) : (dt2 y mo).length = 7 := by simp [dt2, dgt_length]
theorem dt3_len (y mo d : Nat) : (dt3 y mo d).length = 10 := by simp [dt3, dgt_length]
theorem pow4 {x : Nat} (h : x ≤ 9999) : x < 10 ^ 4 := by omega
theorem sz4 (y : Nat) : (strOfNums (dgt 4 y)).size = 4 := by rw [strOfNums_size, dgt_length]
theorem sz2 (y : Nat) : (strOfNums (dgt 2 y)).size = 2 := by rw [strOfNums_size, dgt_length]
theorem g4 (y : Nat) (h : y ≤ 9999) : DigC (strOfNums (dgt 4 y)) 4 y := dig_dgt 4 y 4 rfl (by omega) (pow4 h)
theorem g2 (y : Nat) (h : y ≤ 99) : DigC (strOfNums (dgt 2 y)) 2 y := dig_dgt 2 y 2 rfl (by omega) (pow2 h)
theorem f1 (y : Nat) : FldC (strOfNums (dgt 4 y)) 45 (strOfNums (dgt 4 y)) ⟨#[]⟩ ⟨#[]⟩ 1 := fld1 45 _ (NS_dgt (by omega) 4 y) (by rw [dgt_length]; omega)
theorem f2 (y mo : Nat) : FldC (strOfNums (dt2 y mo)) 45 (strOfNums (dgt 4 y)) (strOfNums (dgt 2 mo)) ⟨#[]⟩ 2 := fld2 45 (by omega) _ _ (NS_dgt (by omega) 4 y) (NS_dgt (by omega) 2 mo) (by rw [dgt_length, dgt_length]; omega)
theorem f3 (y mo d : Nat) : FldC (strOfNums (dt3 y mo d)) 45 (strOfNums (dgt 4 y)) (strOfNums (dgt 2 mo)) (strOfNums (dgt 2 d)) 3 := fld3 45 (by omega) _ _ _ (NS_dgt (by omega) 4 y) (NS_dgt (by omega) 2 mo) (NS_dgt (by omega) 2 d) (by rw [dgt_length, dgt_length, dgt_length]; omega)
theorem son_nil : strOfNums [] = ⟨#[]⟩ := by decide
theorem cT (A B : List Int) (hA : NS 84 A) (hlen : 0 < A.length) (hs : A.length + B.length ≤ 1000) : CutY (strOfNums (A ++ [84] ++ B)) ⟨#[84]⟩ (strOfNums A) (strOfNums B) := cut_found 84 (by omega) A B hA hlen hs
theorem cN (A : List Int) (hA : NS 84 A) (hlen : 1 < A.length) : CutN (strOfNums A) ⟨#[84]⟩ := cut_none 84 (by omega) A hA hlen
theorem cM (A : List Int) (hA : NS 84 A) (hlen : 0 < A.length) (hs : A.length ≤ 1000) : CutY (strOfNums (A ++ [84])) ⟨#[84]⟩ (strOfNums A) ⟨#[]⟩ := by
  have h := cT A [] hA hlen (by simpa using hs)
  rw [List.append_nil, son_nil] at h
  exact h

theorem R1n (y : Nat) (hy : y ≤ 9999) : PD (dgt 4 y) 5 1 y 0 0 0 0 0 false 0 := fun w =>
  pd1n _ y w hy (sz4 y) (cN _ (NS_dgt (by omega) 4 y) (by rw [dgt_length]; omega)) (f1 y) (g4 y hy)
theorem R1m (y : Nat) (hy : y ≤ 9999) : PD (dgt 4 y ++ [84]) 6 1 y 0 0 0 0 0 false 0 := fun w =>
  pd1m _ _ y w hy (sz4 y) (cM _ (NS_dgt (by omega) 4 y) (by rw [dgt_length]; omega) (by rw [dgt_length]; omega)) (f1 y) (g4 y hy)
theorem R2n (y mo : Nat) (hy : y ≤ 9999) (h1 : 1 ≤ mo) (h2 : mo ≤ 12) : PD (dt2 y mo) 5 2 y mo 0 0 0 0 false 0 := fun w =>
  pd2n _ _ _ y mo w hy h1 h2 (sz4 y) (sz2 mo) (cN _ (dt2_NS (by omega) y mo) (by rw [dt2_len]; omega)) (f2 y mo) (g4 y hy) (g2 mo (by omega))
theorem R2m (y mo : Nat) (hy : y ≤ 9999) (h1 : 1 ≤ mo) (h2 : mo ≤ 12) : PD (dt2 y mo ++ [84]) 6 2 y mo 0 0 0 0 false 0 := fun w =>
  pd2m _ _ _ _ y mo w hy h1 h2 (sz4 y) (sz2 mo) (cM _ (dt2_NS (by omega) y mo) (by rw [dt2_len]; omega) (by rw [dt2_len]; omega)) (f2 y mo) (g4 y hy) (g2 mo (by omega))
theorem R3n (y mo d : Nat) (hy : y ≤ 9999) (h1 : 1 ≤ mo) (h2 : mo ≤ 12) (h3 : 1 ≤ d) (h4 : d ≤ 31) (h5 : d ≤ dys y mo) : PD (dt3 y mo d) 5 3 y mo d 0 0 0 false 0 := fun w =>
  pd3n _ _ _ _ y mo d w hy h1 h2 h3 h4 h5 (sz4 y) (sz2 mo) (sz2 d) (cN _ (dt3_NS (by omega) y mo d) (by rw [dt3_len]; omega)) (f3 y mo d) (g4 y hy) (g2 mo (by omega)) (g2 d (by omega))
theorem R3m (y mo d : Nat) (hy : y ≤ 9999) (h1 : 1 ≤ mo) (h2 : mo ≤ 12) (h3 : 1 ≤ d) (h4 : d ≤ 31) (h5 : d ≤ dys y mo) : PD (dt3 y mo d ++ [84]) 6 3 y mo d 0 0 0 false 0 := fun w =>
  pd3m _ _ _ _ _ y mo d w hy h1 h2 h3 h4 h5 (sz4 y) (sz2 mo) (sz2 d) (cM _ (dt3_NS (by omega) y mo d) (by rw [dt3_len]; omega) (by rw [dt3_len]; omega)) (f3 y mo d) (g4 y hy) (g2 mo (by omega)) (g2 d (by omega))

/-- a clock's text -/
structure Ck (K : List Int) (p h m nn : Int) : Prop where
  nz : NZ K
  pos : 0 < K.length
  len : K.length ≤ 100
  ns : NS 84 K
  rd : ∀ w, Calls Try.prog 18 #[.string (strOfNums K)] w fun e w' => e = .returned (.tuple #[Tv p h m nn, .bool true]) ∧ Below w.heap.size w w'
theorem son_ne {K : List Int} (h : 0 < K.length) : (strOfNums K).toList.isEmpty = false := by
  rw [Lib.toList_data, strOfNums_data]
  cases K with
  | nil => simp at h
  | cons c l => rfl
theorem RC (y mo d : Nat) (hy : y ≤ 9999) (h1 : 1 ≤ mo) (h2 : mo ≤ 12) (h3 : 1 ≤ d) (h4 : d ≤ 31) (h5 : d ≤ dys y mo) {K : List Int} {p h m nn : Int} (ck : Ck K p h m nn) : PD (dt3 y mo d ++ [84] ++ K) 6 p y mo d h m nn false 0 := fun w =>
  pd3c _ _ _ _ _ _ y mo d w hy h1 h2 h3 h4 h5 (sz4 y) (sz2 mo) (sz2 d) (cT _ K (dt3_NS (by omega) y mo d) (by rw [dt3_len]; omega) (by rw [dt3_len]; have := ck.len; omega)) (f3 y mo d) (g4 y hy) (g2 mo (by omega)) (g2 d (by omega))
    p h m nn (son_ne ck.pos) (by rw [strOfNums_size]; have := ck.len; omega) (fun w => off_none K w (by have := ck.len; omega) ck.nz) ck.rd
theorem RZ (y mo d : Nat) (hy : y ≤ 9999) (h1 : 1 ≤ mo) (h2 : mo ≤ 12) (h3 : 1 ≤ d) (h4 : d ≤ 31) (h5 : d ≤ dys y mo) {K : List Int} {p h m nn : Int} (ck : Ck K p h m nn) (c : Int) (B : List Int) (o : Int) (hc : c = 90 ∨ c = 43 ∨ c = 45) (hB : ∀ x ∈ B, 0 ≤ x ∧ x < 256) (hBl : B.length ≤ 10)
    (hZ : ∀ w, Calls Try.prog 29 #[.string (strOfNums (c :: B))] w fun e w' => e = .returned (.tuple #[.int .i64 o, .bool true]) ∧ Below w.heap.size w w') : PD (dt3 y mo d ++ [84] ++ (K ++ (c :: B))) 6 p y mo d h m nn true o := fun w =>
  pd3z _ _ _ _ _ _ _ _ y mo d w hy h1 h2 h3 h4 h5 (sz4 y) (sz2 mo) (sz2 d) (cT _ (K ++ (c :: B)) (dt3_NS (by omega) y mo d) (by rw [dt3_len]; omega) (by rw [dt3_len]; have := ck.len; simp; omega)) (f3 y mo d) (g4 y hy) (g2 mo (by omega)) (g2 d (by omega))
    p h m nn (son_ne (by simp; omega)) (by rw [strOfNums_size]; have := ck.len; simp; omega) K.length o (by rw [strOfNums_size]; simp) (by
      rw [son_extract, strOfNums_size]
      congr 1
      rw [dropL rfl, List.take_of_length_le (by simp)]) (by
      rw [son_extract, Nat.sub_zero, List.drop_zero, takeL rfl]) (fun w => off_some K B c w (by have := ck.len; omega) ck.nz hc hB) hZ ck.rd

theorem NZ_dgt (k x : Nat) : NZ (dgt k x) := fun y hy => by have := dgt_dig k x y hy; omega
theorem NZ.append {a b : List Int} (h : NZ a) (k : NZ b) : NZ (a ++ b) := fun x hx => (List.mem_append.1 hx).elim (h x) (k x)
theorem NZ.one {d : Int} (h0 : 0 ≤ d) (h1 : d < 256) (h2 : d ≠ 90 ∧ d ≠ 43 ∧ d ≠ 45) : NZ [d] := fun x hx => by simp at hx; subst hx; exact ⟨h0, h1, h2⟩
theorem NZ.take {a : List Int} (h : NZ a) (k : Nat) : NZ (a.take k) := fun x hx => h x (List.mem_of_mem_take hx)
theorem nz58 : NZ [58] := NZ.one (by omega) (by omega) (by omega)
theorem ns58 : NS 84 [58] := NS.one (by omega) (by omega) (by omega)
theorem nz46 : NZ [46] := NZ.one (by omega) (by omega) (by omega)
theorem ns46 : NS 84 [46] := NS.one (by omega) (by omega) (by omega)
theorem nd (k x : Nat) : NS 84 (dgt k x) := NS_dgt (by omega) k x
theorem Ck4 (h : Nat) (hh : h ≤ 23) : Ck (dgt 2 h) 4 h 0 0 := ⟨NZ_dgt 2 h, by rw [dgt_length]; omega, by rw [dgt_length]; omega, nd 2 h, fun w => T4 h w hh⟩
theorem Ck5 (h m : Nat) (hh : h ≤ 23) (hm : m ≤ 59) : Ck (C5 h m) 5 h m 0 := ⟨((NZ_dgt 2 h).append nz58).append (NZ_dgt 2 m), by simp [C5]; omega, by simp [C5, dgt_length], ((nd 2 h).append ns58).append (nd 2 m), fun w => T5 h m w hh hm⟩
theorem Ck6 (h m s : Nat) (hh : h ≤ 23) (hm : m ≤ 59) (hs : s ≤ 60) : Ck (C6 h m s) 6 h m ((s : Int) * 1000000000) := ⟨((((NZ_dgt 2 h).append nz58).append (NZ_dgt 2 m)).append nz58).append (NZ_dgt 2 s), by simp [C6]; omega, by simp [C6, dgt_length], ((((nd 2 h).append ns58).append (nd 2 m)).append ns58).append (nd 2 s), fun w => T6 h m s w hh hm hs⟩
theorem Ck7 (h m s n : Nat) (hh : h ≤ 23) (hm : m ≤ 59) (hs : s ≤ 60) (hn : n ≤ 999999999) : Ck (C7 h m s n) 6 h m ((s : Int) * 1000000000 + n) :=
  ⟨((((((NZ_dgt 2 h).append nz58).append (NZ_dgt 2 m)).append nz58).append (NZ_dgt 2 s)).append nz46).append ((NZ_dgt 9 n).take _), by simp [C7]; omega, by have := (frL_len n).1; simp [C7, dgt_length]; omega, ((((((nd 2 h).append ns58).append (nd 2 m)).append ns58).append (nd 2 s)).append ns46).append ((nd 9 n).take _), fun w => T7 h m s n w hh hm hs hn⟩

end Go.Proofs.Qxb6600803a
