import Derived.Test.Qxb6600803aWalkM
namespace Go.Proofs.Qxb6600803a
open Go.RowKit Tm
set_option linter.unusedVariables false
set_option linter.unusedSimpArgs false

/-- six cells -/
def vec6 (a b c d e f : Value) (j : Nat) : Value := #[a, b, c, d, e, f].getD j undef
theorem row6_alloc (w : World) (a b c d e f : Value) (t : TypeId) : (w.alloc (.cells #[a, b, c, d, e, f] t)).rowIs w.heap.size t 6 (vec6 a b c d e f) :=
  World.rowIs_alloc w #[a, b, c, d, e, f] t _ (fun j hj => by
    have hj' : j < 6 := hj
    match j, hj' with
    | 0, _ => rfl
    | 1, _ => rfl
    | 2, _ => rfl
    | 3, _ => rfl
    | 4, _ => rfl
    | 5, _ => rfl)
theorem s10_0 {w : World} {B : Nat} {t : TypeId} {t0 t1 t2 t3 t4 t5 t6 t7 t8 t9 : Value} (x : Value) (h : w.rowIs B t 10 (vec10 t0 t1 t2 t3 t4 t5 t6 t7 t8 t9)) : (w.setCell ⟨B, 0, none⟩ x).rowIs B t 10 (vec10 x t1 t2 t3 t4 t5 t6 t7 t8 t9) :=
  (h.set 0 x).congr (fun j hj => by
    match j, hj with
    | 0, _ => rfl
    | 1, _ => rfl
    | 2, _ => rfl
    | 3, _ => rfl
    | 4, _ => rfl
    | 5, _ => rfl
    | 6, _ => rfl
    | 7, _ => rfl
    | 8, _ => rfl
    | 9, _ => rfl)
theorem s10_1 {w : World} {B : Nat} {t : TypeId} {t0 t1 t2 t3 t4 t5 t6 t7 t8 t9 : Value} (x : Value) (h : w.rowIs B t 10 (vec10 t0 t1 t2 t3 t4 t5 t6 t7 t8 t9)) : (w.setCell ⟨B, 1, none⟩ x).rowIs B t 10 (vec10 t0 x t2 t3 t4 t5 t6 t7 t8 t9) :=
  (h.set 1 x).congr (fun j hj => by
    match j, hj with
    | 0, _ => rfl
    | 1, _ => rfl
    | 2, _ => rfl
    | 3, _ => rfl
    | 4, _ => rfl
    | 5, _ => rfl
    | 6, _ => rfl
    | 7, _ => rfl
    | 8, _ => rfl
    | 9, _ => rfl)
theorem s10_2 {w : World} {B : Nat} {t : TypeId} {t0 t1 t2 t3 t4 t5 t6 t7 t8 t9 : Value} (x : Value) (h : w.rowIs B t 10 (vec10 t0 t1 t2 t3 t4 t5 t6 t7 t8 t9)) : (w.setCell ⟨B, 2, none⟩ x).rowIs B t 10 (vec10 t0 t1 x t3 t4 t5 t6 t7 t8 t9) :=
  (h.set 2 x).congr (fun j hj => by
    match j, hj with
    | 0, _ => rfl
    | 1, _ => rfl
    | 2, _ => rfl
    | 3, _ => rfl
    | 4, _ => rfl
    | 5, _ => rfl
    | 6, _ => rfl
    | 7, _ => rfl
    | 8, _ => rfl
    | 9, _ => rfl)
theorem s10_3 {w : World} {B : Nat} {t : TypeId} {t0 t1 t2 t3 t4 t5 t6 t7 t8 t9 : Value} (x : Value) (h : w.rowIs B t 10 (vec10 t0 t1 t2 t3 t4 t5 t6 t7 t8 t9)) : (w.setCell ⟨B, 3, none⟩ x).rowIs B t 10 (vec10 t0 t1 t2 x t4 t5 t6 t7 t8 t9) :=
  (h.set 3 x).congr (fun j hj => by
    match j, hj with
    | 0, _ => rfl
    | 1, _ => rfl
    | 2, _ => rfl
    | 3, _ => rfl
    | 4, _ => rfl
    | 5, _ => rfl
    | 6, _ => rfl
    | 7, _ => rfl
    | 8, _ => rfl
    | 9, _ => rfl)
theorem s10_4 {w : World} {B : Nat} {t : TypeId} {t0 t1 t2 t3 t4 t5 t6 t7 t8 t9 : Value} (x : Value) (h : w.rowIs B t 10 (vec10 t0 t1 t2 t3 t4 t5 t6 t7 t8 t9)) : (w.setCell ⟨B, 4, none⟩ x).rowIs B t 10 (vec10 t0 t1 t2 t3 x t5 t6 t7 t8 t9) :=
  (h.set 4 x).congr (fun j hj => by
    match j, hj with
    | 0, _ => rfl
    | 1, _ => rfl
    | 2, _ => rfl
    | 3, _ => rfl
    | 4, _ => rfl
    | 5, _ => rfl
    | 6, _ => rfl
    | 7, _ => rfl
    | 8, _ => rfl
    | 9, _ => rfl)
theorem s10_5 {w : World} {B : Nat} {t : TypeId} {t0 t1 t2 t3 t4 t5 t6 t7 t8 t9 : Value} (x : Value) (h : w.rowIs B t 10 (vec10 t0 t1 t2 t3 t4 t5 t6 t7 t8 t9)) : (w.setCell ⟨B, 5, none⟩ x).rowIs B t 10 (vec10 t0 t1 t2 t3 t4 x t6 t7 t8 t9) :=
  (h.set 5 x).congr (fun j hj => by
    match j, hj with
    | 0, _ => rfl
    | 1, _ => rfl
    | 2, _ => rfl
    | 3, _ => rfl
    | 4, _ => rfl
    | 5, _ => rfl
    | 6, _ => rfl
    | 7, _ => rfl
    | 8, _ => rfl
    | 9, _ => rfl)
theorem s10_6 {w : World} {B : Nat} {t : TypeId} {t0 t1 t2 t3 t4 t5 t6 t7 t8 t9 : Value} (x : Value) (h : w.rowIs B t 10 (vec10 t0 t1 t2 t3 t4 t5 t6 t7 t8 t9)) : (w.setCell ⟨B, 6, none⟩ x).rowIs B t 10 (vec10 t0 t1 t2 t3 t4 t5 x t7 t8 t9) :=
  (h.set 6 x).congr (fun j hj => by
    match j, hj with
    | 0, _ => rfl
    | 1, _ => rfl
    | 2, _ => rfl
    | 3, _ => rfl
    | 4, _ => rfl
    | 5, _ => rfl
    | 6, _ => rfl
    | 7, _ => rfl
    | 8, _ => rfl
    | 9, _ => rfl)
theorem s10_7 {w : World} {B : Nat} {t : TypeId} {t0 t1 t2 t3 t4 t5 t6 t7 t8 t9 : Value} (x : Value) (h : w.rowIs B t 10 (vec10 t0 t1 t2 t3 t4 t5 t6 t7 t8 t9)) : (w.setCell ⟨B, 7, none⟩ x).rowIs B t 10 (vec10 t0 t1 t2 t3 t4 t5 t6 x t8 t9) :=
  (h.set 7 x).congr (fun j hj => by
    match j, hj with
    | 0, _ => rfl
    | 1, _ => rfl
    | 2, _ => rfl
    | 3, _ => rfl
    | 4, _ => rfl
    | 5, _ => rfl
    | 6, _ => rfl
    | 7, _ => rfl
    | 8, _ => rfl
    | 9, _ => rfl)
theorem s10_8 {w : World} {B : Nat} {t : TypeId} {t0 t1 t2 t3 t4 t5 t6 t7 t8 t9 : Value} (x : Value) (h : w.rowIs B t 10 (vec10 t0 t1 t2 t3 t4 t5 t6 t7 t8 t9)) : (w.setCell ⟨B, 8, none⟩ x).rowIs B t 10 (vec10 t0 t1 t2 t3 t4 t5 t6 t7 x t9) :=
  (h.set 8 x).congr (fun j hj => by
    match j, hj with
    | 0, _ => rfl
    | 1, _ => rfl
    | 2, _ => rfl
    | 3, _ => rfl
    | 4, _ => rfl
    | 5, _ => rfl
    | 6, _ => rfl
    | 7, _ => rfl
    | 8, _ => rfl
    | 9, _ => rfl)
theorem s10_9 {w : World} {B : Nat} {t : TypeId} {t0 t1 t2 t3 t4 t5 t6 t7 t8 t9 : Value} (x : Value) (h : w.rowIs B t 10 (vec10 t0 t1 t2 t3 t4 t5 t6 t7 t8 t9)) : (w.setCell ⟨B, 9, none⟩ x).rowIs B t 10 (vec10 t0 t1 t2 t3 t4 t5 t6 t7 t8 x) :=
  (h.set 9 x).congr (fun j hj => by
    match j, hj with
    | 0, _ => rfl
    | 1, _ => rfl
    | 2, _ => rfl
    | 3, _ => rfl
    | 4, _ => rfl
    | 5, _ => rfl
    | 6, _ => rfl
    | 7, _ => rfl
    | 8, _ => rfl
    | 9, _ => rfl)

/-- the rows of parseDateTime: its result, the temporal that it fills, its parts, limits and pointers -/
structure DR (w wx : World) (t0 t1 t2 t3 t4 t5 t6 t7 t8 t9 : Value) (a b c : ByteArray) : Prop where
  R : wx.rowIs w.heap.size 38 10 (vec10 (.int .u8 0) (.int .i64 0) (.int .i64 0) (.int .i64 0) (.int .i64 0) (.int .i64 0) (.int .i64 0) (.int .i64 0) (.bool false) (.int .i64 0))
  T : wx.rowIs (w.heap.size + 1) 38 10 (vec10 t0 t1 t2 t3 t4 t5 t6 t7 t8 t9)
  P : wx.rowIs (w.heap.size + 1 + 1 + 1) 47 3 (vec3 (.string a) (.string b) (.string c))
  L : wx.rowIs (w.heap.size + 1 + 1 + 1 + 1) 55 6 (vec6 (.int .i64 0) (.int .i64 9999) (.int .i64 1) (.int .i64 12) (.int .i64 1) (.int .i64 31))
  V : wx.rowIs (w.heap.size + 1 + 1 + 1 + 1 + 1) 57 3 (vec3 (.pointer (some ⟨w.heap.size + 1, 2, none⟩)) (.pointer (some ⟨w.heap.size + 1, 3, none⟩)) (.pointer (some ⟨w.heap.size + 1, 4, none⟩)))
  B : Below w.heap.size w wx
section
variable {w wx : World} {t0 t1 t2 t3 t4 t5 t6 t7 t8 t9 : Value} {a b c : ByteArray}
theorem DR.below {w' : World} (h : DR w wx t0 t1 t2 t3 t4 t5 t6 t7 t8 t9 a b c) (hb : Below wx.heap.size wx w') : DR w w' t0 t1 t2 t3 t4 t5 t6 t7 t8 t9 a b c :=
  ⟨row_below h.R hb, row_below h.T hb, row_below h.P hb, row_below h.L hb, row_below h.V hb, h.B.trans (hb.mono h.B.size)⟩
theorem DR.drewN (h : DR w wx t0 t1 t2 t3 t4 t5 t6 t7 t8 t9 a b c) (q : Nat) : DR w (wx.drewN q) t0 t1 t2 t3 t4 t5 t6 t7 t8 t9 a b c :=
  ⟨h.R, h.T, h.P, h.L, h.V, bel_drewN h.B q⟩
theorem DR.alloc (h : DR w wx t0 t1 t2 t3 t4 t5 t6 t7 t8 t9 a b c) (o : Obj) : DR w (wx.alloc o) t0 t1 t2 t3 t4 t5 t6 t7 t8 t9 a b c :=
  ⟨h.R.alloc o, h.T.alloc o, h.P.alloc o, h.L.alloc o, h.V.alloc o, h.B.alloc h.B.size o⟩
theorem DR.set0 (x : Value) (h : DR w wx t0 t1 t2 t3 t4 t5 t6 t7 t8 t9 a b c) : DR w (wx.setCell ⟨w.heap.size + 1, 0, none⟩ x) x t1 t2 t3 t4 t5 t6 t7 t8 t9 a b c :=
  ⟨h.R.setOther (by simp) x, s10_0 x h.T, h.P.setOther (by simp <;> omega) x, h.L.setOther (by simp <;> omega) x, h.V.setOther (by simp <;> omega) x, h.B.setCell (by simp) x⟩
theorem DR.set1 (x : Value) (h : DR w wx t0 t1 t2 t3 t4 t5 t6 t7 t8 t9 a b c) : DR w (wx.setCell ⟨w.heap.size + 1, 1, none⟩ x) t0 x t2 t3 t4 t5 t6 t7 t8 t9 a b c :=
  ⟨h.R.setOther (by simp) x, s10_1 x h.T, h.P.setOther (by simp <;> omega) x, h.L.setOther (by simp <;> omega) x, h.V.setOther (by simp <;> omega) x, h.B.setCell (by simp) x⟩
theorem DR.set2 (x : Value) (h : DR w wx t0 t1 t2 t3 t4 t5 t6 t7 t8 t9 a b c) : DR w (wx.setCell ⟨w.heap.size + 1, 2, none⟩ x) t0 t1 x t3 t4 t5 t6 t7 t8 t9 a b c :=
  ⟨h.R.setOther (by simp) x, s10_2 x h.T, h.P.setOther (by simp <;> omega) x, h.L.setOther (by simp <;> omega) x, h.V.setOther (by simp <;> omega) x, h.B.setCell (by simp) x⟩
theorem DR.set3 (x : Value) (h : DR w wx t0 t1 t2 t3 t4 t5 t6 t7 t8 t9 a b c) : DR w (wx.setCell ⟨w.heap.size + 1, 3, none⟩ x) t0 t1 t2 x t4 t5 t6 t7 t8 t9 a b c :=
  ⟨h.R.setOther (by simp) x, s10_3 x h.T, h.P.setOther (by simp <;> omega) x, h.L.setOther (by simp <;> omega) x, h.V.setOther (by simp <;> omega) x, h.B.setCell (by simp) x⟩
theorem DR.set4 (x : Value) (h : DR w wx t0 t1 t2 t3 t4 t5 t6 t7 t8 t9 a b c) : DR w (wx.setCell ⟨w.heap.size + 1, 4, none⟩ x) t0 t1 t2 t3 x t5 t6 t7 t8 t9 a b c :=
  ⟨h.R.setOther (by simp) x, s10_4 x h.T, h.P.setOther (by simp <;> omega) x, h.L.setOther (by simp <;> omega) x, h.V.setOther (by simp <;> omega) x, h.B.setCell (by simp) x⟩
theorem DR.set5 (x : Value) (h : DR w wx t0 t1 t2 t3 t4 t5 t6 t7 t8 t9 a b c) : DR w (wx.setCell ⟨w.heap.size + 1, 5, none⟩ x) t0 t1 t2 t3 t4 x t6 t7 t8 t9 a b c :=
  ⟨h.R.setOther (by simp) x, s10_5 x h.T, h.P.setOther (by simp <;> omega) x, h.L.setOther (by simp <;> omega) x, h.V.setOther (by simp <;> omega) x, h.B.setCell (by simp) x⟩
theorem DR.set6 (x : Value) (h : DR w wx t0 t1 t2 t3 t4 t5 t6 t7 t8 t9 a b c) : DR w (wx.setCell ⟨w.heap.size + 1, 6, none⟩ x) t0 t1 t2 t3 t4 t5 x t7 t8 t9 a b c :=
  ⟨h.R.setOther (by simp) x, s10_6 x h.T, h.P.setOther (by simp <;> omega) x, h.L.setOther (by simp <;> omega) x, h.V.setOther (by simp <;> omega) x, h.B.setCell (by simp) x⟩
theorem DR.set7 (x : Value) (h : DR w wx t0 t1 t2 t3 t4 t5 t6 t7 t8 t9 a b c) : DR w (wx.setCell ⟨w.heap.size + 1, 7, none⟩ x) t0 t1 t2 t3 t4 t5 t6 x t8 t9 a b c :=
  ⟨h.R.setOther (by simp) x, s10_7 x h.T, h.P.setOther (by simp <;> omega) x, h.L.setOther (by simp <;> omega) x, h.V.setOther (by simp <;> omega) x, h.B.setCell (by simp) x⟩
theorem DR.set8 (x : Value) (h : DR w wx t0 t1 t2 t3 t4 t5 t6 t7 t8 t9 a b c) : DR w (wx.setCell ⟨w.heap.size + 1, 8, none⟩ x) t0 t1 t2 t3 t4 t5 t6 t7 x t9 a b c :=
  ⟨h.R.setOther (by simp) x, s10_8 x h.T, h.P.setOther (by simp <;> omega) x, h.L.setOther (by simp <;> omega) x, h.V.setOther (by simp <;> omega) x, h.B.setCell (by simp) x⟩
theorem DR.set9 (x : Value) (h : DR w wx t0 t1 t2 t3 t4 t5 t6 t7 t8 t9 a b c) : DR w (wx.setCell ⟨w.heap.size + 1, 9, none⟩ x) t0 t1 t2 t3 t4 t5 t6 t7 t8 x a b c :=
  ⟨h.R.setOther (by simp) x, s10_9 x h.T, h.P.setOther (by simp <;> omega) x, h.L.setOther (by simp <;> omega) x, h.V.setOther (by simp <;> omega) x, h.B.setCell (by simp) x⟩
theorem DR.facts (h : DR w wx t0 t1 t2 t3 t4 t5 t6 t7 t8 t9 a b c) :
    (wx.cell? ⟨w.heap.size + 1, 0, none⟩ = some t0 ∧ wx.cell? ⟨w.heap.size + 1, 1, none⟩ = some t1 ∧ wx.cell? ⟨w.heap.size + 1, 2, none⟩ = some t2 ∧ wx.cell? ⟨w.heap.size + 1, 3, none⟩ = some t3 ∧ wx.cell? ⟨w.heap.size + 1, 4, none⟩ = some t4 ∧ wx.cell? ⟨w.heap.size + 1, 5, none⟩ = some t5 ∧ wx.cell? ⟨w.heap.size + 1, 6, none⟩ = some t6 ∧ wx.cell? ⟨w.heap.size + 1, 7, none⟩ = some t7 ∧ wx.cell? ⟨w.heap.size + 1, 8, none⟩ = some t8 ∧ wx.cell? ⟨w.heap.size + 1, 9, none⟩ = some t9 ∧ ∀ o, wx.frozen? ⟨w.heap.size + 1, o, none⟩ = false) ∧
    (wx.cell? ⟨w.heap.size, 0, none⟩ = some (.int .u8 0) ∧ wx.cell? ⟨w.heap.size, 1, none⟩ = some (.int .i64 0) ∧ wx.cell? ⟨w.heap.size, 2, none⟩ = some (.int .i64 0) ∧ wx.cell? ⟨w.heap.size, 3, none⟩ = some (.int .i64 0) ∧ wx.cell? ⟨w.heap.size, 4, none⟩ = some (.int .i64 0) ∧ wx.cell? ⟨w.heap.size, 5, none⟩ = some (.int .i64 0) ∧ wx.cell? ⟨w.heap.size, 6, none⟩ = some (.int .i64 0) ∧ wx.cell? ⟨w.heap.size, 7, none⟩ = some (.int .i64 0) ∧ wx.cell? ⟨w.heap.size, 8, none⟩ = some (.bool false) ∧ wx.cell? ⟨w.heap.size, 9, none⟩ = some (.int .i64 0) ∧ ∀ o, wx.frozen? ⟨w.heap.size, o, none⟩ = false) ∧
    (wx.cell? ⟨w.heap.size + 1 + 1 + 1, 0, none⟩ = some (.string a) ∧ wx.cell? ⟨w.heap.size + 1 + 1 + 1, 1, none⟩ = some (.string b) ∧ wx.cell? ⟨w.heap.size + 1 + 1 + 1, 2, none⟩ = some (.string c)) ∧
    (wx.cell? ⟨w.heap.size + 1 + 1 + 1 + 1, 0, none⟩ = some (.int .i64 0) ∧ wx.cell? ⟨w.heap.size + 1 + 1 + 1 + 1, 1, none⟩ = some (.int .i64 9999) ∧ wx.cell? ⟨w.heap.size + 1 + 1 + 1 + 1, 2, none⟩ = some (.int .i64 1) ∧ wx.cell? ⟨w.heap.size + 1 + 1 + 1 + 1, 3, none⟩ = some (.int .i64 12) ∧ wx.cell? ⟨w.heap.size + 1 + 1 + 1 + 1, 4, none⟩ = some (.int .i64 1) ∧ wx.cell? ⟨w.heap.size + 1 + 1 + 1 + 1, 5, none⟩ = some (.int .i64 31)) ∧
    (wx.cell? ⟨w.heap.size + 1 + 1 + 1 + 1 + 1, 0, none⟩ = some (.pointer (some ⟨w.heap.size + 1, 2, none⟩)) ∧ wx.cell? ⟨w.heap.size + 1 + 1 + 1 + 1 + 1, 1, none⟩ = some (.pointer (some ⟨w.heap.size + 1, 3, none⟩)) ∧ wx.cell? ⟨w.heap.size + 1 + 1 + 1 + 1 + 1, 2, none⟩ = some (.pointer (some ⟨w.heap.size + 1, 4, none⟩))) :=
  ⟨facts10 h.T, facts10 h.R, ⟨h.P.cell (i := 0) (by omega), h.P.cell (i := 1) (by omega), h.P.cell (i := 2) (by omega)⟩,
    ⟨h.L.cell (i := 0) (by omega), h.L.cell (i := 1) (by omega), h.L.cell (i := 2) (by omega), h.L.cell (i := 3) (by omega), h.L.cell (i := 4) (by omega), h.L.cell (i := 5) (by omega)⟩,
    ⟨h.V.cell (i := 0) (by omega), h.V.cell (i := 1) (by omega), h.V.cell (i := 2) (by omega)⟩⟩
end

/-- the world when the first field is read -/
def DW (X : World) (B : Nat) (a b c : ByteArray) : World :=
  (((X.alloc (P3 a b c)).alloc (.cells #[.string a, .string b, .string c] 47)).alloc (.cells #[.int .i64 0, .int .i64 9999, .int .i64 1, .int .i64 12, .int .i64 1, .int .i64 31] 55)).alloc (.cells #[.pointer (some ⟨B + 1, 2, none⟩), .pointer (some ⟨B + 1, 3, none⟩), .pointer (some ⟨B + 1, 4, none⟩)] 57)
def DX (w : World) : World := (w.alloc (.cells #[(.int .u8 0), (.int .i64 0), (.int .i64 0), (.int .i64 0), (.int .i64 0), (.int .i64 0), (.int .i64 0), (.int .i64 0), (.bool false), (.int .i64 0)] 38)).alloc (.cells #[(.int .u8 5), (.int .i64 0), (.int .i64 0), (.int .i64 0), (.int .i64 0), (.int .i64 0), (.int .i64 0), (.int .i64 0), (.bool false), (.int .i64 0)] 38)
theorem DR.start (w X : World) (q : Nat) (hX : X = (DX w).drewN q) (a b c : ByteArray) : DR w (DW X w.heap.size a b c) (.int .u8 5) (.int .i64 0) (.int .i64 0) (.int .i64 0) (.int .i64 0) (.int .i64 0) (.int .i64 0) (.int .i64 0) (.bool false) (.int .i64 0) a b c := by
  have hs : X.heap.size = w.heap.size + 1 + 1 := by rw [hX]; simp [DX, World.drewN]
  have hB : Below w.heap.size w X := by rw [hX]; exact bel_drewN (((Below.refl _ _).alloc (Nat.le_refl _) _).alloc (by simp) _) q
  have hR : X.rowIs w.heap.size 38 10 (vec10 (.int .u8 0) (.int .i64 0) (.int .i64 0) (.int .i64 0) (.int .i64 0) (.int .i64 0) (.int .i64 0) (.int .i64 0) (.bool false) (.int .i64 0)) := by
    rw [hX]; exact row_drewN ((row10_alloc w _ _ _ _ _ _ _ _ _ _ 38).alloc _) q
  have hT : X.rowIs (w.heap.size + 1) 38 10 (vec10 (.int .u8 5) (.int .i64 0) (.int .i64 0) (.int .i64 0) (.int .i64 0) (.int .i64 0) (.int .i64 0) (.int .i64 0) (.bool false) (.int .i64 0)) := by
    rw [hX]
    have h := row10_alloc (w.alloc (.cells #[(.int .u8 0), (.int .i64 0), (.int .i64 0), (.int .i64 0), (.int .i64 0), (.int .i64 0), (.int .i64 0), (.int .i64 0), (.bool false), (.int .i64 0)] 38)) (.int .u8 5) (.int .i64 0) (.int .i64 0) (.int .i64 0) (.int .i64 0) (.int .i64 0) (.int .i64 0) (.int .i64 0) (.bool false) (.int .i64 0) 38
    refine row_drewN ?_ q
    simpa [DX] using h
  refine ⟨(((hR.alloc _).alloc _).alloc _).alloc _, (((hT.alloc _).alloc _).alloc _).alloc _, ?_, ?_, ?_, ?_⟩
  · have h := ((row3_alloc (X.alloc (P3 a b c)) (.string a) (.string b) (.string c) 47).alloc (.cells #[.int .i64 0, .int .i64 9999, .int .i64 1, .int .i64 12, .int .i64 1, .int .i64 31] 55)).alloc (.cells #[.pointer (some ⟨w.heap.size + 1, 2, none⟩), .pointer (some ⟨w.heap.size + 1, 3, none⟩), .pointer (some ⟨w.heap.size + 1, 4, none⟩)] 57)
    simpa [hs, DW] using h
  · have h := (row6_alloc ((X.alloc (P3 a b c)).alloc (.cells #[.string a, .string b, .string c] 47)) (.int .i64 0) (.int .i64 9999) (.int .i64 1) (.int .i64 12) (.int .i64 1) (.int .i64 31) 55).alloc (.cells #[.pointer (some ⟨w.heap.size + 1, 2, none⟩), .pointer (some ⟨w.heap.size + 1, 3, none⟩), .pointer (some ⟨w.heap.size + 1, 4, none⟩)] 57)
    simpa [hs, DW] using h
  · have h := row3_alloc (((X.alloc (P3 a b c)).alloc (.cells #[.string a, .string b, .string c] 47)).alloc (.cells #[.int .i64 0, .int .i64 9999, .int .i64 1, .int .i64 12, .int .i64 1, .int .i64 31] 55)) (.pointer (some ⟨w.heap.size + 1, 2, none⟩)) (.pointer (some ⟨w.heap.size + 1, 3, none⟩)) (.pointer (some ⟨w.heap.size + 1, 4, none⟩)) 57
    simpa [hs, DW] using h
  · exact ((((hB.alloc hB.size _).alloc (by have := hB.size; simp; omega) _).alloc (by have := hB.size; simp; omega) _).alloc (by have := hB.size; simp; omega) _)

end Go.Proofs.Qxb6600803a
