import Derived.Test.Qxb6600803aWalkH
namespace Go.Proofs.Qxb6600803a
open Go.RowKit Tm
set_option linter.unusedVariables false
set_option linter.unusedSimpArgs false

/-- a temporal as the laws see it -/
def Zv (k p y mo d h mi n : Int) (z : Bool) (o : Int) : Value := .agg #[.int .i64 k, .int .i64 p, .int .i64 y, .int .i64 mo, .int .i64 d, .int .i64 h, .int .i64 mi, .int .i64 n, .bool z, .int .i64 o]
def Uv (k p y mo d h mi n : Int) (z : Bool) (o : Int) : Value := .agg #[.int .u8 k, .int .i64 p, .int .i64 y, .int .i64 mo, .int .i64 d, .int .i64 h, .int .i64 mi, .int .i64 n, .bool z, .int .i64 o]

set_option maxRecDepth 100000 in
set_option maxHeartbeats 1000000 in
theorem zpt_any (s : ByteArray) (p h m n : Int) (w : World) (H : ∀ w, Calls Try.prog 18 #[.string s] w fun e w' => e = .returned (.tuple #[Tv p h m n, .bool true]) ∧ Below w.heap.size w w') :
    Calls Try.prog 9 #[.string s] w fun e w' => e = .returned (.tuple #[Zv 7 p 0 0 0 h m n false 0, .bool true]) ∧ Below w.heap.size w w' := by
  have HR : Hid ((w.alloc (.cells #[.int .i64 0, .int .i64 0, .int .i64 0, .int .i64 0, .int .i64 0, .int .i64 0, .int .i64 0, .int .i64 0, .bool false, .int .i64 0] 24)).rowIs w.heap.size 24 10 (vec10 (.int .i64 0) (.int .i64 0) (.int .i64 0) (.int .i64 0) (.int .i64 0) (.int .i64 0) (.int .i64 0) (.int .i64 0) (.bool false) (.int .i64 0))) := row10_alloc w _ _ _ _ _ _ _ _ _ _ 24
  have HB : Hid (Below w.heap.size w (w.alloc (.cells #[.int .i64 0, .int .i64 0, .int .i64 0, .int .i64 0, .int .i64 0, .int .i64 0, .int .i64 0, .int .i64 0, .bool false, .int .i64 0] 24))) := (Below.refl _ _).alloc (Nat.le_refl _) _
  have HH := hidd H
  clear H
  go_enter Try.func9, Try.ntmps9
  go_wp2_with fail
  refine (HH.out _).mono ?_
  rintro e w1 ⟨rfl, hb⟩
  have HR1 := hidd (row_below HR.out hb)
  have HB1 := hidd (HB.out.trans (hb.mono HB.out.size))
  clear hb HR HB
  unfold Tv
  go_wp2_with fail
  refine (zto_any 7 p 0 0 0 h m n 0 false _ (by omega)).mono ?_
  rintro e w2 ⟨rfl, hb⟩
  have hR := row_below (HR1.out.alloc _) hb
  have HB2 := hidd ((HB1.out.alloc HB1.out.size _).trans (hb.mono (by have := HB1.out.size; simp; omega)))
  obtain ⟨rr0, rr1, rr2, rr3, rr4, rr5, rr6, rr7, rr8, rr9, rrf⟩ := facts10 hR
  clear hb hR HR1 HB1
  go_wp2_with fail
  refine bodyPost_ret (v := .tuple #[.agg #[.int .i64 7, .int .i64 p, .int .i64 0, .int .i64 0, .int .i64 0, .int .i64 h, .int .i64 m, .int .i64 n, .bool false, .int .i64 0], .bool true]) (by rw [results_cell_tmp rfl]; go_simp) rfl ⟨rfl, ?_⟩
  iterate 10 refine Below.setCell ?_ (by simp) _
  exact HB2.out

end Go.Proofs.Qxb6600803a
