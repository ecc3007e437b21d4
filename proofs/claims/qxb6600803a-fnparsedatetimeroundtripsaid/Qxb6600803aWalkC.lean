import Derived.Test.Qxb6600803aWalkB
import Derived.Laws.ResultCell
import Derived.Deep.OwnRows
namespace Go.Proofs.Qxb6600803a
open Go.RowKit Tm
set_option linter.unusedVariables false
set_option linter.unusedSimpArgs false

theorem bcell {W w1 : World} (hb : Below W.heap.size W w1) : (∀ b o, b < W.heap.size → w1.cell? ⟨b, o, none⟩ = W.cell? ⟨b, o, none⟩) ∧ (∀ b o, b < W.heap.size → w1.frozen? ⟨b, o, none⟩ = W.frozen? ⟨b, o, none⟩) :=
  ⟨fun b o h => hb.cell (p := ⟨b, o, none⟩) h, fun b o h => hb.frozen (p := ⟨b, o, none⟩) h⟩

theorem ba_ext {a b : ByteArray} (h : a.data.toList = b.data.toList) : a = b := by
  cases a; cases b; congr 1; exact Array.toList_inj.1 h
theorem son_extract (l : List Int) (i j : Nat) : (strOfNums l).extract i j = strOfNums ((l.drop i).take (j - i)) := by
  apply ba_ext
  rw [Lib.extract_data, strOfNums_data, strOfNums_data, List.map_take, List.map_drop]
theorem son_get (l : List Int) (i : Nat) (h : i < (strOfNums l).size) : (strOfNums l)[i] = UInt8.ofNat (l[i]'(by rw [strOfNums_size] at h; exact h)).toNat := by
  have h2 : i < (strOfNums l).data.toList.length := by simpa using h
  have e : (strOfNums l)[i] = (strOfNums l).data.toList[i] := rfl
  rw [e]
  simp [strOfNums_data]

/-- a time of day as parseTime hands it back -/
def Tv (prec h m n : Int) : Value := .agg #[.int .u8 7, .int .i64 prec, .int .i64 0, .int .i64 0, .int .i64 0, .int .i64 h, .int .i64 m, .int .i64 n, .bool false, .int .i64 0]

/-- what 'fields' hands back -/
def FldC (s : ByteArray) (sep : Int) (a b c : ByteArray) (n : Int) : Prop := ∀ w, Calls Try.prog 24 #[.string s, .int .u8 sep] w fun e w' => e = .returned (.tuple #[.agg #[.string a, .string b, .string c], .int .i64 n, .bool true]) ∧ w' = w.alloc (P3 a b c)
/-- what 'digits' hands back -/
def DigC (s : ByteArray) (k n : Int) : Prop := ∀ w, Calls Try.prog 26 #[.string s, .int .i64 k] w fun e w' => e = .returned (.tuple #[.int .i64 n, .bool true]) ∧ Below w.heap.size w w'

theorem ix0 (w : World) : (Instr.index 53 (.agg #[.int .i64 23, .int .i64 59, .int .i64 60]) (.int .i64 0)).run Try.prog w = .ok (.int .i64 23) w := by kernel_rfl
theorem ix1 (w : World) : (Instr.index 53 (.agg #[.int .i64 23, .int .i64 59, .int .i64 60]) (.int .i64 1)).run Try.prog w = .ok (.int .i64 59) w := by kernel_rfl
theorem ix2 (w : World) : (Instr.index 53 (.agg #[.int .i64 23, .int .i64 59, .int .i64 60]) (.int .i64 2)).run Try.prog w = .ok (.int .i64 60) w := by kernel_rfl

/-- ten cells -/
def vec10 (v0 v1 v2 v3 v4 v5 v6 v7 v8 v9 : Value) (j : Nat) : Value := #[v0, v1, v2, v3, v4, v5, v6, v7, v8, v9].getD j undef
theorem row_below {X w' : World} {b : Nat} {t : TypeId} {n : Nat} {f : Nat → Value} (h : X.rowIs b t n f) (hb : Below X.heap.size X w') : w'.rowIs b t n f := h.of_block (hb.block b h.lt)
theorem facts10 {w : World} {B : Nat} {t : TypeId} {v0 v1 v2 v3 v4 v5 v6 v7 v8 v9 : Value} (h : w.rowIs B t 10 (vec10 v0 v1 v2 v3 v4 v5 v6 v7 v8 v9)) :
    w.cell? ⟨B, 0, none⟩ = some v0 ∧ w.cell? ⟨B, 1, none⟩ = some v1 ∧ w.cell? ⟨B, 2, none⟩ = some v2 ∧ w.cell? ⟨B, 3, none⟩ = some v3 ∧ w.cell? ⟨B, 4, none⟩ = some v4 ∧ w.cell? ⟨B, 5, none⟩ = some v5 ∧ w.cell? ⟨B, 6, none⟩ = some v6 ∧ w.cell? ⟨B, 7, none⟩ = some v7 ∧ w.cell? ⟨B, 8, none⟩ = some v8 ∧ w.cell? ⟨B, 9, none⟩ = some v9 ∧ ∀ o, w.frozen? ⟨B, o, none⟩ = false :=
  ⟨h.cell (i := 0) (by omega), h.cell (i := 1) (by omega), h.cell (i := 2) (by omega), h.cell (i := 3) (by omega), h.cell (i := 4) (by omega), h.cell (i := 5) (by omega), h.cell (i := 6) (by omega), h.cell (i := 7) (by omega), h.cell (i := 8) (by omega), h.cell (i := 9) (by omega), fun o => h.frozen o⟩
theorem facts3 {w : World} {B : Nat} {t : TypeId} {f : Nat → Value} (h : w.rowIs B t 3 f) : w.cell? ⟨B, 0, none⟩ = some (f 0) ∧ w.cell? ⟨B, 1, none⟩ = some (f 1) ∧ w.cell? ⟨B, 2, none⟩ = some (f 2) ∧ ∀ o, w.frozen? ⟨B, o, none⟩ = false :=
  ⟨h.cell (by omega), h.cell (by omega), h.cell (by omega), fun o => h.frozen o⟩
theorem set10_1 {w : World} {B : Nat} {t : TypeId} {v0 v1 v2 v3 v4 v5 v6 v7 v8 v9 : Value} (x : Value) (h : w.rowIs B t 10 (vec10 v0 v1 v2 v3 v4 v5 v6 v7 v8 v9)) : (w.setCell ⟨B, 1, none⟩ x).rowIs B t 10 (vec10 v0 x v2 v3 v4 v5 v6 v7 v8 v9) :=
  (h.set 1 x).congr (fun j hj => by
    match j, hj with
    | 0, _ => rfl
    | 1, _ => rfl
    | 2, _ => rfl
    | 3, _ => rfl
    | 4, _ => rfl
    | 5, _ => rfl
    | 6, _ => rfl
    | 7, _ => rfl
    | 8, _ => rfl
    | 9, _ => rfl)
theorem set10_5 {w : World} {B : Nat} {t : TypeId} {v0 v1 v2 v3 v4 v5 v6 v7 v8 v9 : Value} (x : Value) (h : w.rowIs B t 10 (vec10 v0 v1 v2 v3 v4 v5 v6 v7 v8 v9)) : (w.setCell ⟨B, 5, none⟩ x).rowIs B t 10 (vec10 v0 v1 v2 v3 v4 x v6 v7 v8 v9) :=
  (h.set 5 x).congr (fun j hj => by
    match j, hj with
    | 0, _ => rfl
    | 1, _ => rfl
    | 2, _ => rfl
    | 3, _ => rfl
    | 4, _ => rfl
    | 5, _ => rfl
    | 6, _ => rfl
    | 7, _ => rfl
    | 8, _ => rfl
    | 9, _ => rfl)
theorem set10_6 {w : World} {B : Nat} {t : TypeId} {v0 v1 v2 v3 v4 v5 v6 v7 v8 v9 : Value} (x : Value) (h : w.rowIs B t 10 (vec10 v0 v1 v2 v3 v4 v5 v6 v7 v8 v9)) : (w.setCell ⟨B, 6, none⟩ x).rowIs B t 10 (vec10 v0 v1 v2 v3 v4 v5 x v7 v8 v9) :=
  (h.set 6 x).congr (fun j hj => by
    match j, hj with
    | 0, _ => rfl
    | 1, _ => rfl
    | 2, _ => rfl
    | 3, _ => rfl
    | 4, _ => rfl
    | 5, _ => rfl
    | 6, _ => rfl
    | 7, _ => rfl
    | 8, _ => rfl
    | 9, _ => rfl)
theorem set10_7 {w : World} {B : Nat} {t : TypeId} {v0 v1 v2 v3 v4 v5 v6 v7 v8 v9 : Value} (x : Value) (h : w.rowIs B t 10 (vec10 v0 v1 v2 v3 v4 v5 v6 v7 v8 v9)) : (w.setCell ⟨B, 7, none⟩ x).rowIs B t 10 (vec10 v0 v1 v2 v3 v4 v5 v6 x v8 v9) :=
  (h.set 7 x).congr (fun j hj => by
    match j, hj with
    | 0, _ => rfl
    | 1, _ => rfl
    | 2, _ => rfl
    | 3, _ => rfl
    | 4, _ => rfl
    | 5, _ => rfl
    | 6, _ => rfl
    | 7, _ => rfl
    | 8, _ => rfl
    | 9, _ => rfl)
theorem row10_alloc (w : World) (v0 v1 v2 v3 v4 v5 v6 v7 v8 v9 : Value) (t : TypeId) : (w.alloc (.cells #[v0, v1, v2, v3, v4, v5, v6, v7, v8, v9] t)).rowIs w.heap.size t 10 (vec10 v0 v1 v2 v3 v4 v5 v6 v7 v8 v9) :=
  World.rowIs_alloc w #[v0, v1, v2, v3, v4, v5, v6, v7, v8, v9] t _ (fun j hj => by
    have hj' : j < 10 := hj
    match j, hj' with
    | 0, _ => rfl
    | 1, _ => rfl
    | 2, _ => rfl
    | 3, _ => rfl
    | 4, _ => rfl
    | 5, _ => rfl
    | 6, _ => rfl
    | 7, _ => rfl
    | 8, _ => rfl
    | 9, _ => rfl)
def vec3 (a b c : Value) (j : Nat) : Value := #[a, b, c].getD j undef
theorem row3_alloc (w : World) (a b c : Value) (t : TypeId) : (w.alloc (.cells #[a, b, c] t)).rowIs w.heap.size t 3 (vec3 a b c) :=
  World.rowIs_alloc w #[a, b, c] t _ (fun j hj => by
    have hj' : j < 3 := hj
    match j, hj' with
    | 0, _ => rfl
    | 1, _ => rfl
    | 2, _ => rfl)

/-- what strings.Cut hands back -/
def CutN (d sep : ByteArray) : Prop := ∀ w, Calls Try.prog 25 #[.string d, .string sep] w fun e w' => e = .returned (.tuple #[.string d, .string ⟨#[]⟩, .bool false]) ∧ w' = w
def CutY (d sep a b : ByteArray) : Prop := ∀ w, Calls Try.prog 25 #[.string d, .string sep] w fun e w' => e = .returned (.tuple #[.string a, .string b, .bool true]) ∧ ∃ q, w' = w.drewN q
theorem row_drewN {w : World} {b : Nat} {t : TypeId} {n : Nat} {f : Nat → Value} (h : w.rowIs b t n f) (q : Nat) : (w.drewN q).rowIs b t n f := h
theorem bel_drewN {B : Nat} {a w : World} (h : Below B a w) (n : Nat) : Below B a (w.drewN n) := h.trans ⟨rfl, rfl, rfl, Nat.le_refl _, fun _ _ => rfl⟩

set_option maxRecDepth 100000 in
set_option maxHeartbeats 1000000 in
theorem pt4 (s : ByteArray) (h : Int) (w : World) (hh0 : 0 ≤ h) (hh : h ≤ 23) (HF : FldC s 58 s ⟨#[]⟩ ⟨#[]⟩ 1) (HD : DigC s 2 h) :
    Calls Try.prog 18 #[.string s] w fun e w' => e = .returned (.tuple #[Tv 4 h 0 0, .bool true]) ∧ Below w.heap.size w w' := by
  have x0 := ix0
  have x1 := ix1
  have x2 := ix2
  have hb0 : Below w.heap.size w ((((w.alloc (.cells #[(.int .u8 0), (.int .i64 0), (.int .i64 0), (.int .i64 0), (.int .i64 0), (.int .i64 0), (.int .i64 0), (.int .i64 0), (.bool false), (.int .i64 0)] 38)).alloc (.cells #[(.int .u8 7), (.int .i64 3), (.int .i64 0), (.int .i64 0), (.int .i64 0), (.int .i64 0), (.int .i64 0), (.int .i64 0), (.bool false), (.int .i64 0)] 38)).alloc (P3 s ⟨#[]⟩ ⟨#[]⟩)).alloc (.cells #[.string s, .string ⟨#[]⟩, .string ⟨#[]⟩] 47)) := (((((Below.refl _ _).alloc (Nat.le_refl _) _).alloc (by simp) _).alloc (by simp; omega) _).alloc (by simp; omega) _)
  have hR0 : ((((w.alloc (.cells #[(.int .u8 0), (.int .i64 0), (.int .i64 0), (.int .i64 0), (.int .i64 0), (.int .i64 0), (.int .i64 0), (.int .i64 0), (.bool false), (.int .i64 0)] 38)).alloc (.cells #[(.int .u8 7), (.int .i64 3), (.int .i64 0), (.int .i64 0), (.int .i64 0), (.int .i64 0), (.int .i64 0), (.int .i64 0), (.bool false), (.int .i64 0)] 38)).alloc (P3 s ⟨#[]⟩ ⟨#[]⟩)).alloc (.cells #[.string s, .string ⟨#[]⟩, .string ⟨#[]⟩] 47)).rowIs w.heap.size 38 10 (vec10 (.int .u8 0) (.int .i64 0) (.int .i64 0) (.int .i64 0) (.int .i64 0) (.int .i64 0) (.int .i64 0) (.int .i64 0) (.bool false) (.int .i64 0)) := (((row10_alloc w (.int .u8 0) (.int .i64 0) (.int .i64 0) (.int .i64 0) (.int .i64 0) (.int .i64 0) (.int .i64 0) (.int .i64 0) (.bool false) (.int .i64 0) 38).alloc _).alloc _).alloc _
  have hT0 : ((((w.alloc (.cells #[(.int .u8 0), (.int .i64 0), (.int .i64 0), (.int .i64 0), (.int .i64 0), (.int .i64 0), (.int .i64 0), (.int .i64 0), (.bool false), (.int .i64 0)] 38)).alloc (.cells #[(.int .u8 7), (.int .i64 3), (.int .i64 0), (.int .i64 0), (.int .i64 0), (.int .i64 0), (.int .i64 0), (.int .i64 0), (.bool false), (.int .i64 0)] 38)).alloc (P3 s ⟨#[]⟩ ⟨#[]⟩)).alloc (.cells #[.string s, .string ⟨#[]⟩, .string ⟨#[]⟩] 47)).rowIs (w.heap.size + 1) 38 10 (vec10 (.int .u8 7) (.int .i64 3) (.int .i64 0) (.int .i64 0) (.int .i64 0) (.int .i64 0) (.int .i64 0) (.int .i64 0) (.bool false) (.int .i64 0)) := by
    have h := ((row10_alloc (w.alloc (.cells #[(.int .u8 0), (.int .i64 0), (.int .i64 0), (.int .i64 0), (.int .i64 0), (.int .i64 0), (.int .i64 0), (.int .i64 0), (.bool false), (.int .i64 0)] 38)) (.int .u8 7) (.int .i64 3) (.int .i64 0) (.int .i64 0) (.int .i64 0) (.int .i64 0) (.int .i64 0) (.int .i64 0) (.bool false) (.int .i64 0) 38).alloc (P3 s ⟨#[]⟩ ⟨#[]⟩)).alloc (.cells #[.string s, .string ⟨#[]⟩, .string ⟨#[]⟩] 47)
    simpa using h
  have hP0 : ((((w.alloc (.cells #[(.int .u8 0), (.int .i64 0), (.int .i64 0), (.int .i64 0), (.int .i64 0), (.int .i64 0), (.int .i64 0), (.int .i64 0), (.bool false), (.int .i64 0)] 38)).alloc (.cells #[(.int .u8 7), (.int .i64 3), (.int .i64 0), (.int .i64 0), (.int .i64 0), (.int .i64 0), (.int .i64 0), (.int .i64 0), (.bool false), (.int .i64 0)] 38)).alloc (P3 s ⟨#[]⟩ ⟨#[]⟩)).alloc (.cells #[.string s, .string ⟨#[]⟩, .string ⟨#[]⟩] 47)).rowIs (w.heap.size + 1 + 1 + 1) 47 3 (vec3 (.string s) (.string ⟨#[]⟩) (.string ⟨#[]⟩)) := by
    have h := row3_alloc (((w.alloc (.cells #[(.int .u8 0), (.int .i64 0), (.int .i64 0), (.int .i64 0), (.int .i64 0), (.int .i64 0), (.int .i64 0), (.int .i64 0), (.bool false), (.int .i64 0)] 38)).alloc (.cells #[(.int .u8 7), (.int .i64 3), (.int .i64 0), (.int .i64 0), (.int .i64 0), (.int .i64 0), (.int .i64 0), (.int .i64 0), (.bool false), (.int .i64 0)] 38)).alloc (P3 s ⟨#[]⟩ ⟨#[]⟩)) (.string s) (.string ⟨#[]⟩) (.string ⟨#[]⟩) 47
    simpa using h
  have HB := hidd hb0
  have HR := hidd hR0
  have HT := hidd hT0
  have HP := hidd hP0
  clear hb0 hR0 hT0 hP0
  go_enter Try.func18, Try.ntmps18
  go_wp2_with fail
  refine (HF _).mono ?_
  rintro e w1 ⟨rfl, rfl⟩
  go_wp2_with fail
  refine wp_loop_rounds 2 ?_
  rw [rounds_succ]
  go_wp2_with fail
  refine (HD _).mono ?_
  rintro e w2 ⟨rfl, hb⟩
  have hR := row_below HR.out hb
  have hT := row_below HT.out hb
  have hP := row_below HP.out hb
  have hB : Below w.heap.size w w2 := HB.out.trans (hb.mono HB.out.size)
  clear hb HR HT HP HB
  have HR := hidd hR
  have HT := hidd hT
  have HP := hidd hP
  have HB := hidd hB
  obtain ⟨rr0, rr1, rr2, rr3, rr4, rr5, rr6, rr7, rr8, rr9, rrf⟩ := facts10 hR
  obtain ⟨tt0, tt1, tt2, tt3, tt4, tt5, tt6, tt7, tt8, tt9, ttf⟩ := facts10 hT
  obtain ⟨pp0, pp1, pp2, ppf⟩ := facts3 hP
  clear hR hT hP hB
  go_wp2_with fail
  have HT' := hidd (set10_5 (.int .i64 h) (set10_1 (.int .i64 4) HT.out))
  have HR' := hidd ((HR.out.setOther (a := ⟨w.heap.size + 1, 1, none⟩) (by simp) (.int .i64 4)).setOther (a := ⟨w.heap.size + 1, 5, none⟩) (by simp) (.int .i64 h))
  have HP' := hidd ((HP.out.setOther (a := ⟨w.heap.size + 1, 1, none⟩) (by simp <;> omega) (.int .i64 4)).setOther (a := ⟨w.heap.size + 1, 5, none⟩) (by simp <;> omega) (.int .i64 h))
  have HB' := hidd ((HB.out.setCell (p := ⟨w.heap.size + 1, 1, none⟩) (by simp) (.int .i64 4)).setCell (p := ⟨w.heap.size + 1, 5, none⟩) (by simp) (.int .i64 h))
  clear HT HR HP HB
  have HT := HT'
  have HR := HR'
  have HP := HP'
  have HB := HB'
  clear HT' HR' HP' HB'
  rw [rounds_succ]
  go_wp2_with fail
  refine bodyPost_ret (v := .tuple #[.agg #[(.int .u8 7), (.int .i64 4), (.int .i64 0), (.int .i64 0), (.int .i64 0), (.int .i64 h), (.int .i64 0), (.int .i64 0), (.bool false), (.int .i64 0)], .bool true]) (by rw [results_cell_tmp rfl]; go_simp) rfl ⟨rfl, ?_⟩
  iterate 10 refine Below.setCell ?_ (by simp) _
  exact HB.out

set_option maxRecDepth 100000 in
set_option maxHeartbeats 1000000 in
theorem pt5 (s a b : ByteArray) (h m : Int) (w : World) (hh0 : 0 ≤ h) (hh : h ≤ 23) (hm0 : 0 ≤ m) (hm : m ≤ 59) (HF : FldC s 58 a b ⟨#[]⟩ 2) (HD : DigC a 2 h) (HD2 : DigC b 2 m) :
    Calls Try.prog 18 #[.string s] w fun e w' => e = .returned (.tuple #[Tv 5 h m 0, .bool true]) ∧ Below w.heap.size w w' := by
  have x0 := ix0
  have x1 := ix1
  have x2 := ix2
  have hb0 : Below w.heap.size w ((((w.alloc (.cells #[(.int .u8 0), (.int .i64 0), (.int .i64 0), (.int .i64 0), (.int .i64 0), (.int .i64 0), (.int .i64 0), (.int .i64 0), (.bool false), (.int .i64 0)] 38)).alloc (.cells #[(.int .u8 7), (.int .i64 3), (.int .i64 0), (.int .i64 0), (.int .i64 0), (.int .i64 0), (.int .i64 0), (.int .i64 0), (.bool false), (.int .i64 0)] 38)).alloc (P3 a b ⟨#[]⟩)).alloc (.cells #[.string a, .string b, .string ⟨#[]⟩] 47)) := (((((Below.refl _ _).alloc (Nat.le_refl _) _).alloc (by simp) _).alloc (by simp; omega) _).alloc (by simp; omega) _)
  have hR0 : ((((w.alloc (.cells #[(.int .u8 0), (.int .i64 0), (.int .i64 0), (.int .i64 0), (.int .i64 0), (.int .i64 0), (.int .i64 0), (.int .i64 0), (.bool false), (.int .i64 0)] 38)).alloc (.cells #[(.int .u8 7), (.int .i64 3), (.int .i64 0), (.int .i64 0), (.int .i64 0), (.int .i64 0), (.int .i64 0), (.int .i64 0), (.bool false), (.int .i64 0)] 38)).alloc (P3 a b ⟨#[]⟩)).alloc (.cells #[.string a, .string b, .string ⟨#[]⟩] 47)).rowIs w.heap.size 38 10 (vec10 (.int .u8 0) (.int .i64 0) (.int .i64 0) (.int .i64 0) (.int .i64 0) (.int .i64 0) (.int .i64 0) (.int .i64 0) (.bool false) (.int .i64 0)) := (((row10_alloc w (.int .u8 0) (.int .i64 0) (.int .i64 0) (.int .i64 0) (.int .i64 0) (.int .i64 0) (.int .i64 0) (.int .i64 0) (.bool false) (.int .i64 0) 38).alloc _).alloc _).alloc _
  have hT0 : ((((w.alloc (.cells #[(.int .u8 0), (.int .i64 0), (.int .i64 0), (.int .i64 0), (.int .i64 0), (.int .i64 0), (.int .i64 0), (.int .i64 0), (.bool false), (.int .i64 0)] 38)).alloc (.cells #[(.int .u8 7), (.int .i64 3), (.int .i64 0), (.int .i64 0), (.int .i64 0), (.int .i64 0), (.int .i64 0), (.int .i64 0), (.bool false), (.int .i64 0)] 38)).alloc (P3 a b ⟨#[]⟩)).alloc (.cells #[.string a, .string b, .string ⟨#[]⟩] 47)).rowIs (w.heap.size + 1) 38 10 (vec10 (.int .u8 7) (.int .i64 3) (.int .i64 0) (.int .i64 0) (.int .i64 0) (.int .i64 0) (.int .i64 0) (.int .i64 0) (.bool false) (.int .i64 0)) := by
    have h := ((row10_alloc (w.alloc (.cells #[(.int .u8 0), (.int .i64 0), (.int .i64 0), (.int .i64 0), (.int .i64 0), (.int .i64 0), (.int .i64 0), (.int .i64 0), (.bool false), (.int .i64 0)] 38)) (.int .u8 7) (.int .i64 3) (.int .i64 0) (.int .i64 0) (.int .i64 0) (.int .i64 0) (.int .i64 0) (.int .i64 0) (.bool false) (.int .i64 0) 38).alloc (P3 a b ⟨#[]⟩)).alloc (.cells #[.string a, .string b, .string ⟨#[]⟩] 47)
    simpa using h
  have hP0 : ((((w.alloc (.cells #[(.int .u8 0), (.int .i64 0), (.int .i64 0), (.int .i64 0), (.int .i64 0), (.int .i64 0), (.int .i64 0), (.int .i64 0), (.bool false), (.int .i64 0)] 38)).alloc (.cells #[(.int .u8 7), (.int .i64 3), (.int .i64 0), (.int .i64 0), (.int .i64 0), (.int .i64 0), (.int .i64 0), (.int .i64 0), (.bool false), (.int .i64 0)] 38)).alloc (P3 a b ⟨#[]⟩)).alloc (.cells #[.string a, .string b, .string ⟨#[]⟩] 47)).rowIs (w.heap.size + 1 + 1 + 1) 47 3 (vec3 (.string a) (.string b) (.string ⟨#[]⟩)) := by
    have h := row3_alloc (((w.alloc (.cells #[(.int .u8 0), (.int .i64 0), (.int .i64 0), (.int .i64 0), (.int .i64 0), (.int .i64 0), (.int .i64 0), (.int .i64 0), (.bool false), (.int .i64 0)] 38)).alloc (.cells #[(.int .u8 7), (.int .i64 3), (.int .i64 0), (.int .i64 0), (.int .i64 0), (.int .i64 0), (.int .i64 0), (.int .i64 0), (.bool false), (.int .i64 0)] 38)).alloc (P3 a b ⟨#[]⟩)) (.string a) (.string b) (.string ⟨#[]⟩) 47
    simpa using h
  have HB := hidd hb0
  have HR := hidd hR0
  have HT := hidd hT0
  have HP := hidd hP0
  clear hb0 hR0 hT0 hP0
  go_enter Try.func18, Try.ntmps18
  go_wp2_with fail
  refine (HF _).mono ?_
  rintro e w1 ⟨rfl, rfl⟩
  go_wp2_with fail
  refine wp_loop_rounds 3 ?_
  rw [rounds_succ]
  go_wp2_with fail
  refine (HD _).mono ?_
  rintro e w2 ⟨rfl, hb⟩
  have hR := row_below HR.out hb
  have hT := row_below HT.out hb
  have hP := row_below HP.out hb
  have hB : Below w.heap.size w w2 := HB.out.trans (hb.mono HB.out.size)
  clear hb HR HT HP HB
  have HR := hidd hR
  have HT := hidd hT
  have HP := hidd hP
  have HB := hidd hB
  obtain ⟨rr0, rr1, rr2, rr3, rr4, rr5, rr6, rr7, rr8, rr9, rrf⟩ := facts10 hR
  obtain ⟨tt0, tt1, tt2, tt3, tt4, tt5, tt6, tt7, tt8, tt9, ttf⟩ := facts10 hT
  obtain ⟨pp0, pp1, pp2, ppf⟩ := facts3 hP
  clear hR hT hP hB
  go_wp2_with fail
  have HT' := hidd (set10_5 (.int .i64 h) (set10_1 (.int .i64 4) HT.out))
  have HR' := hidd ((HR.out.setOther (a := ⟨w.heap.size + 1, 1, none⟩) (by simp) (.int .i64 4)).setOther (a := ⟨w.heap.size + 1, 5, none⟩) (by simp) (.int .i64 h))
  have HP' := hidd ((HP.out.setOther (a := ⟨w.heap.size + 1, 1, none⟩) (by simp <;> omega) (.int .i64 4)).setOther (a := ⟨w.heap.size + 1, 5, none⟩) (by simp <;> omega) (.int .i64 h))
  have HB' := hidd ((HB.out.setCell (p := ⟨w.heap.size + 1, 1, none⟩) (by simp) (.int .i64 4)).setCell (p := ⟨w.heap.size + 1, 5, none⟩) (by simp) (.int .i64 h))
  clear HT HR HP HB
  have HT := HT'
  have HR := HR'
  have HP := HP'
  have HB := HB'
  clear HT' HR' HP' HB'
  rw [rounds_succ]
  go_wp2_with fail
  refine (HD2 _).mono ?_
  rintro e w3 ⟨rfl, hb⟩
  have hR := row_below HR.out hb
  have hT := row_below HT.out hb
  have hP := row_below HP.out hb
  have hB : Below w.heap.size w w3 := HB.out.trans (hb.mono HB.out.size)
  clear hb HR HT HP HB
  have HR := hidd hR
  have HT := hidd hT
  have HP := hidd hP
  have HB := hidd hB
  obtain ⟨rr0, rr1, rr2, rr3, rr4, rr5, rr6, rr7, rr8, rr9, rrf⟩ := facts10 hR
  obtain ⟨tt0, tt1, tt2, tt3, tt4, tt5, tt6, tt7, tt8, tt9, ttf⟩ := facts10 hT
  obtain ⟨pp0, pp1, pp2, ppf⟩ := facts3 hP
  clear hR hT hP hB
  go_wp2_with fail
  have HT' := hidd (set10_6 (.int .i64 m) (set10_1 (.int .i64 5) HT.out))
  have HR' := hidd ((HR.out.setOther (a := ⟨w.heap.size + 1, 1, none⟩) (by simp) (.int .i64 5)).setOther (a := ⟨w.heap.size + 1, 6, none⟩) (by simp) (.int .i64 m))
  have HP' := hidd ((HP.out.setOther (a := ⟨w.heap.size + 1, 1, none⟩) (by simp <;> omega) (.int .i64 5)).setOther (a := ⟨w.heap.size + 1, 6, none⟩) (by simp <;> omega) (.int .i64 m))
  have HB' := hidd ((HB.out.setCell (p := ⟨w.heap.size + 1, 1, none⟩) (by simp) (.int .i64 5)).setCell (p := ⟨w.heap.size + 1, 6, none⟩) (by simp) (.int .i64 m))
  clear HT HR HP HB
  have HT := HT'
  have HR := HR'
  have HP := HP'
  have HB := HB'
  clear HT' HR' HP' HB'
  rw [rounds_succ]
  go_wp2_with fail
  refine bodyPost_ret (v := .tuple #[.agg #[(.int .u8 7), (.int .i64 5), (.int .i64 0), (.int .i64 0), (.int .i64 0), (.int .i64 h), (.int .i64 m), (.int .i64 0), (.bool false), (.int .i64 0)], .bool true]) (by rw [results_cell_tmp rfl]; go_simp) rfl ⟨rfl, ?_⟩
  iterate 10 refine Below.setCell ?_ (by simp) _
  exact HB.out

set_option maxRecDepth 100000 in
set_option maxHeartbeats 1000000 in
theorem pt6 (s a b d : ByteArray) (h m c : Int) (w : World) (hh0 : 0 ≤ h) (hh : h ≤ 23) (hm0 : 0 ≤ m) (hm : m ≤ 59) (hc0 : 0 ≤ c) (hc : c ≤ 60) (HF : FldC s 58 a b d 3) (HD : DigC a 2 h) (HD2 : DigC b 2 m) (HC : CutN d ⟨#[46]⟩) (HD3 : DigC d 2 c) :
    Calls Try.prog 18 #[.string s] w fun e w' => e = .returned (.tuple #[Tv 6 h m (c * 1000000000), .bool true]) ∧ Below w.heap.size w w' := by
  have x0 := ix0
  have x1 := ix1
  have x2 := ix2
  have hb0 : Below w.heap.size w ((((w.alloc (.cells #[(.int .u8 0), (.int .i64 0), (.int .i64 0), (.int .i64 0), (.int .i64 0), (.int .i64 0), (.int .i64 0), (.int .i64 0), (.bool false), (.int .i64 0)] 38)).alloc (.cells #[(.int .u8 7), (.int .i64 3), (.int .i64 0), (.int .i64 0), (.int .i64 0), (.int .i64 0), (.int .i64 0), (.int .i64 0), (.bool false), (.int .i64 0)] 38)).alloc (P3 a b d)).alloc (.cells #[.string a, .string b, .string d] 47)) := (((((Below.refl _ _).alloc (Nat.le_refl _) _).alloc (by simp) _).alloc (by simp; omega) _).alloc (by simp; omega) _)
  have hR0 : ((((w.alloc (.cells #[(.int .u8 0), (.int .i64 0), (.int .i64 0), (.int .i64 0), (.int .i64 0), (.int .i64 0), (.int .i64 0), (.int .i64 0), (.bool false), (.int .i64 0)] 38)).alloc (.cells #[(.int .u8 7), (.int .i64 3), (.int .i64 0), (.int .i64 0), (.int .i64 0), (.int .i64 0), (.int .i64 0), (.int .i64 0), (.bool false), (.int .i64 0)] 38)).alloc (P3 a b d)).alloc (.cells #[.string a, .string b, .string d] 47)).rowIs w.heap.size 38 10 (vec10 (.int .u8 0) (.int .i64 0) (.int .i64 0) (.int .i64 0) (.int .i64 0) (.int .i64 0) (.int .i64 0) (.int .i64 0) (.bool false) (.int .i64 0)) := (((row10_alloc w (.int .u8 0) (.int .i64 0) (.int .i64 0) (.int .i64 0) (.int .i64 0) (.int .i64 0) (.int .i64 0) (.int .i64 0) (.bool false) (.int .i64 0) 38).alloc _).alloc _).alloc _
  have hT0 : ((((w.alloc (.cells #[(.int .u8 0), (.int .i64 0), (.int .i64 0), (.int .i64 0), (.int .i64 0), (.int .i64 0), (.int .i64 0), (.int .i64 0), (.bool false), (.int .i64 0)] 38)).alloc (.cells #[(.int .u8 7), (.int .i64 3), (.int .i64 0), (.int .i64 0), (.int .i64 0), (.int .i64 0), (.int .i64 0), (.int .i64 0), (.bool false), (.int .i64 0)] 38)).alloc (P3 a b d)).alloc (.cells #[.string a, .string b, .string d] 47)).rowIs (w.heap.size + 1) 38 10 (vec10 (.int .u8 7) (.int .i64 3) (.int .i64 0) (.int .i64 0) (.int .i64 0) (.int .i64 0) (.int .i64 0) (.int .i64 0) (.bool false) (.int .i64 0)) := by
    have h := ((row10_alloc (w.alloc (.cells #[(.int .u8 0), (.int .i64 0), (.int .i64 0), (.int .i64 0), (.int .i64 0), (.int .i64 0), (.int .i64 0), (.int .i64 0), (.bool false), (.int .i64 0)] 38)) (.int .u8 7) (.int .i64 3) (.int .i64 0) (.int .i64 0) (.int .i64 0) (.int .i64 0) (.int .i64 0) (.int .i64 0) (.bool false) (.int .i64 0) 38).alloc (P3 a b d)).alloc (.cells #[.string a, .string b, .string d] 47)
    simpa using h
  have hP0 : ((((w.alloc (.cells #[(.int .u8 0), (.int .i64 0), (.int .i64 0), (.int .i64 0), (.int .i64 0), (.int .i64 0), (.int .i64 0), (.int .i64 0), (.bool false), (.int .i64 0)] 38)).alloc (.cells #[(.int .u8 7), (.int .i64 3), (.int .i64 0), (.int .i64 0), (.int .i64 0), (.int .i64 0), (.int .i64 0), (.int .i64 0), (.bool false), (.int .i64 0)] 38)).alloc (P3 a b d)).alloc (.cells #[.string a, .string b, .string d] 47)).rowIs (w.heap.size + 1 + 1 + 1) 47 3 (vec3 (.string a) (.string b) (.string d)) := by
    have h := row3_alloc (((w.alloc (.cells #[(.int .u8 0), (.int .i64 0), (.int .i64 0), (.int .i64 0), (.int .i64 0), (.int .i64 0), (.int .i64 0), (.int .i64 0), (.bool false), (.int .i64 0)] 38)).alloc (.cells #[(.int .u8 7), (.int .i64 3), (.int .i64 0), (.int .i64 0), (.int .i64 0), (.int .i64 0), (.int .i64 0), (.int .i64 0), (.bool false), (.int .i64 0)] 38)).alloc (P3 a b d)) (.string a) (.string b) (.string d) 47
    simpa using h
  have HB := hidd hb0
  have HR := hidd hR0
  have HT := hidd hT0
  have HP := hidd hP0
  clear hb0 hR0 hT0 hP0
  go_enter Try.func18, Try.ntmps18
  go_wp2_with fail
  refine (HF _).mono ?_
  rintro e w1 ⟨rfl, rfl⟩
  go_wp2_with fail
  refine wp_loop_rounds 4 ?_
  rw [rounds_succ]
  go_wp2_with fail
  refine (HD _).mono ?_
  rintro e w2 ⟨rfl, hb⟩
  have hR := row_below HR.out hb
  have hT := row_below HT.out hb
  have hP := row_below HP.out hb
  have hB : Below w.heap.size w w2 := HB.out.trans (hb.mono HB.out.size)
  clear hb HR HT HP HB
  have HR := hidd hR
  have HT := hidd hT
  have HP := hidd hP
  have HB := hidd hB
  obtain ⟨rr0, rr1, rr2, rr3, rr4, rr5, rr6, rr7, rr8, rr9, rrf⟩ := facts10 hR
  obtain ⟨tt0, tt1, tt2, tt3, tt4, tt5, tt6, tt7, tt8, tt9, ttf⟩ := facts10 hT
  obtain ⟨pp0, pp1, pp2, ppf⟩ := facts3 hP
  clear hR hT hP hB
  go_wp2_with fail
  have HT' := hidd (set10_5 (.int .i64 h) (set10_1 (.int .i64 4) HT.out))
  have HR' := hidd ((HR.out.setOther (a := ⟨w.heap.size + 1, 1, none⟩) (by simp) (.int .i64 4)).setOther (a := ⟨w.heap.size + 1, 5, none⟩) (by simp) (.int .i64 h))
  have HP' := hidd ((HP.out.setOther (a := ⟨w.heap.size + 1, 1, none⟩) (by simp <;> omega) (.int .i64 4)).setOther (a := ⟨w.heap.size + 1, 5, none⟩) (by simp <;> omega) (.int .i64 h))
  have HB' := hidd ((HB.out.setCell (p := ⟨w.heap.size + 1, 1, none⟩) (by simp) (.int .i64 4)).setCell (p := ⟨w.heap.size + 1, 5, none⟩) (by simp) (.int .i64 h))
  clear HT HR HP HB
  have HT := HT'
  have HR := HR'
  have HP := HP'
  have HB := HB'
  clear HT' HR' HP' HB'
  rw [rounds_succ]
  go_wp2_with fail
  refine (HD2 _).mono ?_
  rintro e w3 ⟨rfl, hb⟩
  have hR := row_below HR.out hb
  have hT := row_below HT.out hb
  have hP := row_below HP.out hb
  have hB : Below w.heap.size w w3 := HB.out.trans (hb.mono HB.out.size)
  clear hb HR HT HP HB
  have HR := hidd hR
  have HT := hidd hT
  have HP := hidd hP
  have HB := hidd hB
  obtain ⟨rr0, rr1, rr2, rr3, rr4, rr5, rr6, rr7, rr8, rr9, rrf⟩ := facts10 hR
  obtain ⟨tt0, tt1, tt2, tt3, tt4, tt5, tt6, tt7, tt8, tt9, ttf⟩ := facts10 hT
  obtain ⟨pp0, pp1, pp2, ppf⟩ := facts3 hP
  clear hR hT hP hB
  go_wp2_with fail
  have HT' := hidd (set10_6 (.int .i64 m) (set10_1 (.int .i64 5) HT.out))
  have HR' := hidd ((HR.out.setOther (a := ⟨w.heap.size + 1, 1, none⟩) (by simp) (.int .i64 5)).setOther (a := ⟨w.heap.size + 1, 6, none⟩) (by simp) (.int .i64 m))
  have HP' := hidd ((HP.out.setOther (a := ⟨w.heap.size + 1, 1, none⟩) (by simp <;> omega) (.int .i64 5)).setOther (a := ⟨w.heap.size + 1, 6, none⟩) (by simp <;> omega) (.int .i64 m))
  have HB' := hidd ((HB.out.setCell (p := ⟨w.heap.size + 1, 1, none⟩) (by simp) (.int .i64 5)).setCell (p := ⟨w.heap.size + 1, 6, none⟩) (by simp) (.int .i64 m))
  clear HT HR HP HB
  have HT := HT'
  have HR := HR'
  have HP := HP'
  have HB := HB'
  clear HT' HR' HP' HB'
  rw [rounds_succ]
  go_wp2_with fail
  refine (HC _).mono ?_
  rintro e w4 ⟨rfl, hw4⟩
  have hw4' := hw4.symm
  subst hw4'
  clear hw4
  go_wp2_with fail
  refine (HD3 _).mono ?_
  rintro e w5 ⟨rfl, hb⟩
  have hR := row_below HR.out hb
  have hT := row_below HT.out hb
  have hP := row_below HP.out hb
  have hB : Below w.heap.size w w5 := HB.out.trans (hb.mono HB.out.size)
  clear hb HR HT HP HB
  have HR := hidd hR
  have HT := hidd hT
  have HP := hidd hP
  have HB := hidd hB
  obtain ⟨rr0, rr1, rr2, rr3, rr4, rr5, rr6, rr7, rr8, rr9, rrf⟩ := facts10 hR
  obtain ⟨tt0, tt1, tt2, tt3, tt4, tt5, tt6, tt7, tt8, tt9, ttf⟩ := facts10 hT
  obtain ⟨pp0, pp1, pp2, ppf⟩ := facts3 hP
  clear hR hT hP hB
  go_wp2_with fail
  have HT' := hidd (set10_7 (.int .i64 (c * 1000000000)) (set10_1 (.int .i64 6) HT.out))
  have HR' := hidd ((HR.out.setOther (a := ⟨w.heap.size + 1, 1, none⟩) (by simp) (.int .i64 6)).setOther (a := ⟨w.heap.size + 1, 7, none⟩) (by simp) (.int .i64 (c * 1000000000)))
  have HP' := hidd ((HP.out.setOther (a := ⟨w.heap.size + 1, 1, none⟩) (by simp <;> omega) (.int .i64 6)).setOther (a := ⟨w.heap.size + 1, 7, none⟩) (by simp <;> omega) (.int .i64 (c * 1000000000)))
  have HB' := hidd ((HB.out.setCell (p := ⟨w.heap.size + 1, 1, none⟩) (by simp) (.int .i64 6)).setCell (p := ⟨w.heap.size + 1, 7, none⟩) (by simp) (.int .i64 (c * 1000000000)))
  clear HT HR HP HB
  have HT := HT'
  have HR := HR'
  have HP := HP'
  have HB := HB'
  clear HT' HR' HP' HB'
  rw [rounds_succ]
  go_wp2_with fail
  refine bodyPost_ret (v := .tuple #[.agg #[(.int .u8 7), (.int .i64 6), (.int .i64 0), (.int .i64 0), (.int .i64 0), (.int .i64 h), (.int .i64 m), (.int .i64 (c * 1000000000)), (.bool false), (.int .i64 0)], .bool true]) (by rw [results_cell_tmp rfl]; go_simp) rfl ⟨rfl, ?_⟩
  iterate 10 refine Below.setCell ?_ (by simp) _
  exact HB.out

end Go.Proofs.Qxb6600803a
