import Derived.Test.Qxb6600803aWalkS
namespace Go.Proofs.Qxb6600803a
open Go.RowKit Tm
set_option linter.unusedVariables false
set_option linter.unusedSimpArgs false

/-- while the law writes: the wanted temporal's row, the text's own row -/
structure LW (w wx : World) (Wb : Nat) (x0 x1 x2 x3 x4 x5 x6 x7 x8 x9 : Value) (v : Value) (n : Nat) (xs : List Int) : Prop where
  W : wx.rowIs Wb 24 10 (vec10 x0 x1 x2 x3 x4 x5 x6 x7 x8 x9)
  O : wx.ownsRow w.heap.size 5 1 v n (xs.map (Value.int .u8))
  N : v.ownBlock ≠ some Wb
  B : Below w.heap.size w wx
  G : w.heap.size ≤ Wb
section
variable {w wx : World} {Wb : Nat} {x0 x1 x2 x3 x4 x5 x6 x7 x8 x9 : Value} {v : Value} {n : Nat} {xs : List Int}
theorem LW.start {w1 : World} {v : Value} {n : Nat} {xs : List Int} (p y : Int) (h : w1.ownsRow w.heap.size 5 1 v n (xs.map (Value.int .u8))) (hb : Below w.heap.size w w1) :
    LW w (w1.alloc (.cells #[.int .i64 5, .int .i64 p, .int .i64 y, .int .i64 0, .int .i64 0, .int .i64 0, .int .i64 0, .int .i64 0, .bool false, .int .i64 0] 24)) w1.heap.size (.int .i64 5) (.int .i64 p) (.int .i64 y) (.int .i64 0) (.int .i64 0) (.int .i64 0) (.int .i64 0) (.int .i64 0) (.bool false) (.int .i64 0) v n xs :=
  ⟨row10_alloc w1 _ _ _ _ _ _ _ _ _ _ 24, h.alloc _, fun e => own_ne h e.symm, hb.alloc hb.size _, hb.size⟩
theorem LW.keep {w' : World} {v' : Value} {n' : Nat} {xs' : List Int} (L : LW w wx Wb x0 x1 x2 x3 x4 x5 x6 x7 x8 x9 v n xs) (h : w'.ownsRow w.heap.size 5 1 v' n' (xs'.map (Value.int .u8))) (hb : Below w.heap.size wx w') (hk : Kp wx w' v v') : LW w w' Wb x0 x1 x2 x3 x4 x5 x6 x7 x8 x9 v' n' xs' := by
  refine ⟨L.W.of_block (hk.g.block Wb L.W.lt (fun e => L.N e.symm)), h, ?_, L.B.trans hb, L.G⟩
  intro e
  rcases hk.a with e1 | ⟨k, hk1, e1⟩
  · exact L.N (e1.symm.trans e)
  · rw [e1] at e
    injection e with e
    have := L.W.lt
    omega
theorem LW.app {w' : World} {v' : Value} {c : Int} {ob : Obj} (L : LW w wx Wb x0 x1 x2 x3 x4 x5 x6 x7 x8 x9 v n xs) (h2 : w'.ownsRow w.heap.size 5 1 v' (n + 1) (xs.map (Value.int .u8) ++ [.int .u8 c])) (hg : (wx.alloc ob).grownBy w' v.ownBlock) (hat : v'.ownBlock = v.ownBlock ∨ v'.ownBlock = some (wx.alloc ob).heap.size) :
    LW w w' Wb x0 x1 x2 x3 x4 x5 x6 x7 x8 x9 v' (n + 1) (xs ++ [c]) := by
  obtain ⟨h3, h4⟩ := app1 (Below.refl _ wx) L.B.size L.O h2 hg
  exact L.keep h3 h4 (Kp.app hg hat)
theorem LW.below {w' : World} (L : LW w wx Wb x0 x1 x2 x3 x4 x5 x6 x7 x8 x9 v n xs) (hb : Below wx.heap.size wx w') : LW w w' Wb x0 x1 x2 x3 x4 x5 x6 x7 x8 x9 v n xs :=
  ⟨row_below L.W hb, own_below L.O hb, L.N, L.B.trans (hb.mono L.B.size), L.G⟩
theorem own_set {w : World} {base : Nat} {v : Value} {n : Nat} {xs : List Value} {Wb k : Nat} (x : Value) (h : w.ownsRow base 5 1 v n xs) (hne : v.ownBlock ≠ some Wb) : (w.setCell ⟨Wb, k, none⟩ x).ownsRow base 5 1 v n xs := by
  obtain ⟨h1, h2⟩ := h
  refine ⟨h1, ?_⟩
  rcases h2 with h2 | ⟨g, cap, cur, e, r1, r2, r3⟩
  · exact .inl h2
  · refine .inr ⟨g, cap, cur, e, r1, ?_, r3⟩
    have hg : g ≠ Wb := by
      intro h
      rw [e, h] at hne
      exact hne rfl
    rw [Below.heap_setCell _ _ _ _ (by exact hg)]
    exact r2
theorem LW.set0 (x : Value) (L : LW w wx Wb x0 x1 x2 x3 x4 x5 x6 x7 x8 x9 v n xs) : LW w (wx.setCell ⟨Wb, 0, none⟩ x) Wb x x1 x2 x3 x4 x5 x6 x7 x8 x9 v n xs :=
  ⟨s10_0 x L.W, own_set x L.O L.N, L.N, L.B.setCell L.G x, L.G⟩
theorem LW.set1 (x : Value) (L : LW w wx Wb x0 x1 x2 x3 x4 x5 x6 x7 x8 x9 v n xs) : LW w (wx.setCell ⟨Wb, 1, none⟩ x) Wb x0 x x2 x3 x4 x5 x6 x7 x8 x9 v n xs :=
  ⟨s10_1 x L.W, own_set x L.O L.N, L.N, L.B.setCell L.G x, L.G⟩
theorem LW.set2 (x : Value) (L : LW w wx Wb x0 x1 x2 x3 x4 x5 x6 x7 x8 x9 v n xs) : LW w (wx.setCell ⟨Wb, 2, none⟩ x) Wb x0 x1 x x3 x4 x5 x6 x7 x8 x9 v n xs :=
  ⟨s10_2 x L.W, own_set x L.O L.N, L.N, L.B.setCell L.G x, L.G⟩
theorem LW.set3 (x : Value) (L : LW w wx Wb x0 x1 x2 x3 x4 x5 x6 x7 x8 x9 v n xs) : LW w (wx.setCell ⟨Wb, 3, none⟩ x) Wb x0 x1 x2 x x4 x5 x6 x7 x8 x9 v n xs :=
  ⟨s10_3 x L.W, own_set x L.O L.N, L.N, L.B.setCell L.G x, L.G⟩
theorem LW.set4 (x : Value) (L : LW w wx Wb x0 x1 x2 x3 x4 x5 x6 x7 x8 x9 v n xs) : LW w (wx.setCell ⟨Wb, 4, none⟩ x) Wb x0 x1 x2 x3 x x5 x6 x7 x8 x9 v n xs :=
  ⟨s10_4 x L.W, own_set x L.O L.N, L.N, L.B.setCell L.G x, L.G⟩
theorem LW.set5 (x : Value) (L : LW w wx Wb x0 x1 x2 x3 x4 x5 x6 x7 x8 x9 v n xs) : LW w (wx.setCell ⟨Wb, 5, none⟩ x) Wb x0 x1 x2 x3 x4 x x6 x7 x8 x9 v n xs :=
  ⟨s10_5 x L.W, own_set x L.O L.N, L.N, L.B.setCell L.G x, L.G⟩
theorem LW.set6 (x : Value) (L : LW w wx Wb x0 x1 x2 x3 x4 x5 x6 x7 x8 x9 v n xs) : LW w (wx.setCell ⟨Wb, 6, none⟩ x) Wb x0 x1 x2 x3 x4 x5 x x7 x8 x9 v n xs :=
  ⟨s10_6 x L.W, own_set x L.O L.N, L.N, L.B.setCell L.G x, L.G⟩
theorem LW.set7 (x : Value) (L : LW w wx Wb x0 x1 x2 x3 x4 x5 x6 x7 x8 x9 v n xs) : LW w (wx.setCell ⟨Wb, 7, none⟩ x) Wb x0 x1 x2 x3 x4 x5 x6 x x8 x9 v n xs :=
  ⟨s10_7 x L.W, own_set x L.O L.N, L.N, L.B.setCell L.G x, L.G⟩
theorem LW.set8 (x : Value) (L : LW w wx Wb x0 x1 x2 x3 x4 x5 x6 x7 x8 x9 v n xs) : LW w (wx.setCell ⟨Wb, 8, none⟩ x) Wb x0 x1 x2 x3 x4 x5 x6 x7 x x9 v n xs :=
  ⟨s10_8 x L.W, own_set x L.O L.N, L.N, L.B.setCell L.G x, L.G⟩
theorem LW.set9 (x : Value) (L : LW w wx Wb x0 x1 x2 x3 x4 x5 x6 x7 x8 x9 v n xs) : LW w (wx.setCell ⟨Wb, 9, none⟩ x) Wb x0 x1 x2 x3 x4 x5 x6 x7 x8 x v n xs :=
  ⟨s10_9 x L.W, own_set x L.O L.N, L.N, L.B.setCell L.G x, L.G⟩
end

/-- how a clock is written -/
def CLK (base : Nat) (p h m s n : Int) (K : List Int) : Prop := ∀ (v : Value) (N : Nat) (xs : List Int) (w : World), N ≤ 1000 → base ≤ w.heap.size → w.ownsRow base 5 1 v N (xs.map (Value.int .u8)) →
  Calls Try.prog 11 #[v, .int .i64 p, .int .i64 h, .int .i64 m, .int .i64 s, .int .i64 n] w fun e w' => ∃ v', e = .returned v' ∧ w'.ownsRow base 5 1 v' (N + K.length) ((xs ++ K).map (Value.int .u8)) ∧ Below base w w' ∧ Kp w w' v v'
theorem own_n {w : World} {base : Nat} {v : Value} {n n' : Nat} {L : List Value} (h : w.ownsRow base 5 1 v n L) (e : n = n') : w.ownsRow base 5 1 v n' L := e ▸ h
theorem CLK4 (base h m s n : Nat) (hh : h ≤ 23) (hm : m ≤ 59) (hs : s ≤ 60) (hn : n ≤ 999999999) : CLK base 4 h m s n (dgt 2 h) := fun v N xs w h1 h2 h3 =>
  (clk4k base v N xs h m s n w h1 (by omega) (by omega) (by omega) hn h2 h3).mono (by
    rintro e w' ⟨v', rfl, ho, hb, hk⟩
    exact ⟨v', rfl, own_n ho (by simp [dgt_length]), hb, hk⟩)
theorem CLK5 (base h m s n : Nat) (hh : h ≤ 23) (hm : m ≤ 59) (hs : s ≤ 60) (hn : n ≤ 999999999) : CLK base 5 h m s n (C5 h m) := fun v N xs w h1 h2 h3 =>
  (clk5k base v N xs h m s n w h1 (by omega) (by omega) (by omega) hn h2 h3).mono (by
    rintro e w' ⟨v', rfl, ho, hb, hk⟩
    exact ⟨v', rfl, own_n ho (by simp [C5, dgt_length]), hb, hk⟩)
theorem CLK6 (base h m s n : Nat) (hh : h ≤ 23) (hm : m ≤ 59) (hs : s ≤ 60) (hn : n ≤ 999999999) (hnz : n = 0) : CLK base 6 h m s n (C6 h m s) := fun v N xs w h1 h2 h3 =>
  (clk6k base v N xs h m s n w h1 (by omega) (by omega) (by omega) hn hnz h2 h3).mono (by
    rintro e w' ⟨v', rfl, ho, hb, hk⟩
    exact ⟨v', rfl, own_n ho (by simp [C6, dgt_length]), hb, hk⟩)
theorem CLK7 (base h m s n : Nat) (hh : h ≤ 23) (hm : m ≤ 59) (hs : s ≤ 60) (hn : n ≤ 999999999) (hnz : 0 < n) : CLK base 6 h m s n (C7 h m s n) := fun v N xs w h1 h2 h3 =>
  (clk7k base v N xs h m s n w h1 (by omega) (by omega) (by omega) hn hnz h2 h3).mono (by
    rintro e w' ⟨v', rfl, ho, hb, hk⟩
    have ht := trim_le (dgt 9 n) 9
    exact ⟨v', rfl, own_n ho (by simp [C7, frL, dgt_length, List.length_take]; omega), hb, hk⟩)

end Go.Proofs.Qxb6600803a
