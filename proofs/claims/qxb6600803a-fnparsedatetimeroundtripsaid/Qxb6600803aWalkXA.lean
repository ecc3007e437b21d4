import Derived.Test.Qxb6600803aWalkV
namespace Go.Proofs.Qxb6600803a
open Go.RowKit Tm
set_option linter.unusedVariables false
set_option linter.unusedSimpArgs false

set_option maxRecDepth 100000 in
set_option maxHeartbeats 8000000 in
theorem lawT5p (y mo d h m s nn : Nat) (mk : Bool) (w : World) (hy : y ≤ 9999) (hmo1 : 1 ≤ mo) (hmo2 : mo ≤ 12) (hd1 : 1 ≤ d) (hd2 : d ≤ 31) (hh : h ≤ 23) (hm : m ≤ 59) (hs : s ≤ 60) (hn : nn ≤ 999999999) (hdy : d ≤ dys y mo) (O : Nat) (hO : O ≤ 899) (K : List Int) (ck : Ck K 5 h m 0) (hK : CLK w.heap.size 5 h m s nn K) :
    Calls Try.prog 6 #[.int .i64 y, .int .i64 mo, .int .i64 d, .int .i64 h, .int .i64 m, .int .i64 s, .int .i64 nn, .int .i64 5, .bool mk, .int .i64 2, .int .i64 (O : Int)] w fun e w' => e = .returned (.bool true) ∧ Below w.heap.size w w' := by
  obtain ⟨i0, hi, hz0, hz1, hz2⟩ := info_parts info5
  have q0 : decide ((y : Int) < 0) = false := by simp <;> omega
  have q1 : decide ((9999 : Int) < y) = false := by simp <;> omega
  have q2 : decide ((mo : Int) < 1) = false := by simp <;> omega
  have q3 : decide ((12 : Int) < mo) = false := by simp <;> omega
  have q4 : decide ((d : Int) < 1) = false := by simp <;> omega
  have q5 : decide ((31 : Int) < d) = false := by simp <;> omega
  have q6 : decide ((h : Int) < 0) = false := by simp <;> omega
  have q7 : decide ((23 : Int) < h) = false := by simp <;> omega
  have q8 : decide ((m : Int) < 0) = false := by simp <;> omega
  have q9 : decide ((59 : Int) < m) = false := by simp <;> omega
  have q10 : decide ((s : Int) < 0) = false := by simp <;> omega
  have q11 : decide ((60 : Int) < s) = false := by simp <;> omega
  have q12 : decide ((nn : Int) < 0) = false := by simp <;> omega
  have q13 : decide ((999999999 : Int) < nn) = false := by simp <;> omega
  have qo1 : decide ((O : Int) < -899) = false := by simp <;> omega
  have qo2 : decide ((899 : Int) < O) = false := by simp <;> omega
  have qo3 : decide ((O : Int) < 0) = false := by simp <;> omega
  have HP := hidd (RZp y mo d hy hmo1 hmo2 hd1 hd2 hdy ck O hO)
  have HK := hidd hK
  have hKl := ck.len
  have hdd : decide (((dys y mo : Nat) : Int) < d) = false := by simp; omega
  unfold dt3 at HP
  clear ck hK
  go_enter Try.func6, Try.ntmps6
  go_wp2_with fail
  refine (days15 y mo _ hy hmo1 hmo2).mono ?_
  rintro e w0 ⟨rfl, hw0⟩
  have hw0' := hw0.symm
  subst hw0'
  clear hw0
  go_wp2_with fail
  refine (put_kp w.heap.size _ 0 [] _ y rfl 4 _ rfl _ (by omega) (by omega) (by omega) (Nat.le_refl _) (World.ownsRow_nil _ _ _ _)).mono ?_
  rintro e w1 ⟨v1, rfl, hown1, hb1, hk1⟩
  have L2 := hidd (LW.start 5 y hown1 hb1)
  clear hk1 hown1 hb1
  go_upto_region 12 with fail
  obtain ⟨Wb, hWb⟩ : ∃ Wb, Wb = w1.heap.size := ⟨_, rfl⟩
  obtain ⟨w2, hw2⟩ : ∃ w2, w2 = w1.alloc (.cells #[.int .i64 5, .int .i64 5, .int .i64 y, .int .i64 0, .int .i64 0, .int .i64 0, .int .i64 0, .int .i64 0, .bool false, .int .i64 0] 24) := ⟨_, rfl⟩
  rw [← hw2, ← hWb] at L2 ⊢
  clear hw2 hWb w1
  rw [List.nil_append] at L2
  obtain ⟨ww0, ww1, ww2, ww3, ww4, ww5, ww6, ww7, ww8, ww9, wwf⟩ := facts10 L2.out.W
  go_wp2_with (at_builtin; refine wpList_append_own_at _ rfl (.tmp 118) (.tmp 119) 29 rfl w.heap.size 5 i0 (.int .u8 0) 1 1 Try.underlying29 hi hz0 hz1 hz2 rfl (by decide) v1 _ _ rfl (L2.out.O.alloc _) ⟨w2.heap.size, 0, none⟩ 1 1 [.int .u8 45] rfl rfl (cell_one_new _ _ _) (ints_one [45]) (by unfold maxLen; omega) (by omega) (by have := L2.out.B.size; simp; omega) ?_; intro v3 w3 hown3 hgrow3 _ hat3)
  have L3 := hidd (L2.out.app hown3 hgrow3 hat3)
  clear hown3 hgrow3 hat3 L2
  clear ww0 ww1 ww2 ww3 ww4 ww5 ww6 ww7 ww8 ww9 wwf
  obtain ⟨ww0, ww1, ww2, ww3, ww4, ww5, ww6, ww7, ww8, ww9, wwf⟩ := facts10 L3.out.W
  refine (put_kp w.heap.size v3 _ _ _ mo rfl 2 _ rfl _ (by omega) (by omega) (by omega) L3.out.B.size L3.out.O).mono ?_
  rintro e w4 ⟨v4, rfl, hown4, hb4, hk4⟩
  have L4 := hidd (L3.out.keep hown4 hb4 hk4)
  clear hown4 hb4 hk4 L3
  clear ww0 ww1 ww2 ww3 ww4 ww5 ww6 ww7 ww8 ww9 wwf
  obtain ⟨ww0, ww1, ww2, ww3, ww4, ww5, ww6, ww7, ww8, ww9, wwf⟩ := facts10 L4.out.W
  go_upto_region 16 with fail
  have L5 := hidd (L4.out.set3 (.int .i64 mo))
  obtain ⟨w5, hw5⟩ : ∃ w5, w5 = (w4.setCell ⟨Wb, 3, none⟩ (.int .i64 mo)) := ⟨_, rfl⟩
  rw [← hw5] at L5 ⊢
  clear hw5 L4
  clear ww0 ww1 ww2 ww3 ww4 ww5 ww6 ww7 ww8 ww9 wwf
  obtain ⟨ww0, ww1, ww2, ww3, ww4, ww5, ww6, ww7, ww8, ww9, wwf⟩ := facts10 L5.out.W
  go_wp2_with (at_builtin; refine wpList_append_own_at _ rfl (.tmp 128) (.tmp 129) 29 rfl w.heap.size 5 i0 (.int .u8 0) 1 1 Try.underlying29 hi hz0 hz1 hz2 rfl (by decide) v4 _ _ rfl (L5.out.O.alloc _) ⟨w5.heap.size, 0, none⟩ 1 1 [.int .u8 45] rfl rfl (cell_one_new _ _ _) (ints_one [45]) (by unfold maxLen; omega) (by omega) (by have := L5.out.B.size; simp; omega) ?_; intro v6 w6 hown6 hgrow6 _ hat6)
  have L6 := hidd (L5.out.app hown6 hgrow6 hat6)
  clear hown6 hgrow6 hat6 L5
  clear ww0 ww1 ww2 ww3 ww4 ww5 ww6 ww7 ww8 ww9 wwf
  obtain ⟨ww0, ww1, ww2, ww3, ww4, ww5, ww6, ww7, ww8, ww9, wwf⟩ := facts10 L6.out.W
  refine (put_kp w.heap.size v6 _ _ _ d rfl 2 _ rfl _ (by omega) (by omega) (by omega) L6.out.B.size L6.out.O).mono ?_
  rintro e w7 ⟨v7, rfl, hown7, hb7, hk7⟩
  have L7 := hidd (L6.out.keep hown7 hb7 hk7)
  clear hown7 hb7 hk7 L6
  clear ww0 ww1 ww2 ww3 ww4 ww5 ww6 ww7 ww8 ww9 wwf
  obtain ⟨ww0, ww1, ww2, ww3, ww4, ww5, ww6, ww7, ww8, ww9, wwf⟩ := facts10 L7.out.W
  go_upto_region 20 with fail
  have L8 := hidd (L7.out.set4 (.int .i64 d))
  obtain ⟨w8, hw8⟩ : ∃ w8, w8 = (w7.setCell ⟨Wb, 4, none⟩ (.int .i64 d)) := ⟨_, rfl⟩
  rw [← hw8] at L8 ⊢
  clear hw8 L7
  clear ww0 ww1 ww2 ww3 ww4 ww5 ww6 ww7 ww8 ww9 wwf
  obtain ⟨ww0, ww1, ww2, ww3, ww4, ww5, ww6, ww7, ww8, ww9, wwf⟩ := facts10 L8.out.W
  go_upto_region 22 with fail
  have L9 := hidd (L8.out.set0 (.int .i64 6))
  obtain ⟨w9, hw9⟩ : ∃ w9, w9 = (w8.setCell ⟨Wb, 0, none⟩ (.int .i64 6)) := ⟨_, rfl⟩
  rw [← hw9] at L9 ⊢
  clear hw9 L8
  clear ww0 ww1 ww2 ww3 ww4 ww5 ww6 ww7 ww8 ww9 wwf
  obtain ⟨ww0, ww1, ww2, ww3, ww4, ww5, ww6, ww7, ww8, ww9, wwf⟩ := facts10 L9.out.W
  go_wp2_with (at_builtin; refine wpList_append_own_at _ rfl (.tmp 139) (.tmp 140) 29 rfl w.heap.size 5 i0 (.int .u8 0) 1 1 Try.underlying29 hi hz0 hz1 hz2 rfl (by decide) v7 _ _ rfl (L9.out.O.alloc _) ⟨w9.heap.size, 0, none⟩ 1 1 [.int .u8 84] rfl rfl (cell_one_new _ _ _) (ints_one [84]) (by unfold maxLen; omega) (by omega) (by have := L9.out.B.size; simp; omega) ?_; intro v10 w10 hown10 hgrow10 _ hat10)
  have L10 := hidd (L9.out.app hown10 hgrow10 hat10)
  clear hown10 hgrow10 hat10 L9
  clear ww0 ww1 ww2 ww3 ww4 ww5 ww6 ww7 ww8 ww9 wwf
  obtain ⟨ww0, ww1, ww2, ww3, ww4, ww5, ww6, ww7, ww8, ww9, wwf⟩ := facts10 L10.out.W
  refine (HK.out v10 _ _ _ (by omega) L10.out.B.size L10.out.O).mono ?_
  rintro e w11 ⟨v11, rfl, hown11, hb11, hk11⟩
  have L11 := hidd (L10.out.keep hown11 hb11 hk11)
  clear hown11 hb11 hk11 L10
  clear ww0 ww1 ww2 ww3 ww4 ww5 ww6 ww7 ww8 ww9 wwf
  obtain ⟨ww0, ww1, ww2, ww3, ww4, ww5, ww6, ww7, ww8, ww9, wwf⟩ := facts10 L11.out.W
  go_upto_region 29 with fail
  have L12 := hidd ((L11.out.set5 (.int .i64 h)).set6 (.int .i64 m))
  obtain ⟨w12, hw12⟩ : ∃ w12, w12 = ((w11.setCell ⟨Wb, 5, none⟩ (.int .i64 h)).setCell ⟨Wb, 6, none⟩ (.int .i64 m)) := ⟨_, rfl⟩
  rw [← hw12] at L12 ⊢
  clear hw12 L11
  clear ww0 ww1 ww2 ww3 ww4 ww5 ww6 ww7 ww8 ww9 wwf
  obtain ⟨ww0, ww1, ww2, ww3, ww4, ww5, ww6, ww7, ww8, ww9, wwf⟩ := facts10 L12.out.W
  go_wp2_with (at_builtin; refine wpList_append_own_at _ rfl (.tmp 178) (.tmp 179) 29 rfl w.heap.size 5 i0 (.int .u8 0) 1 1 Try.underlying29 hi hz0 hz1 hz2 rfl (by decide) v11 _ _ rfl (L12.out.O.alloc _) ⟨w12.heap.size, 0, none⟩ 1 1 [.int .u8 43] rfl rfl (cell_one_new _ _ _) (ints_one [43]) (by unfold maxLen; omega) (by omega) (by have := L12.out.B.size; simp; omega) ?_; intro v13 w13 hown13 hgrow13 _ hat13)
  have L13 := hidd (L12.out.app hown13 hgrow13 hat13)
  clear hown13 hgrow13 hat13 L12
  clear ww0 ww1 ww2 ww3 ww4 ww5 ww6 ww7 ww8 ww9 wwf
  obtain ⟨ww0, ww1, ww2, ww3, ww4, ww5, ww6, ww7, ww8, ww9, wwf⟩ := facts10 L13.out.W
  refine (put_kp w.heap.size v13 _ _ _ (O / 60) (by omega) 2 _ rfl _ (by omega) (by omega) (by omega) L13.out.B.size L13.out.O).mono ?_
  rintro e w14 ⟨v14, rfl, hown14, hb14, hk14⟩
  have L14 := hidd (L13.out.keep hown14 hb14 hk14)
  clear hown14 hb14 hk14 L13
  clear ww0 ww1 ww2 ww3 ww4 ww5 ww6 ww7 ww8 ww9 wwf
  obtain ⟨ww0, ww1, ww2, ww3, ww4, ww5, ww6, ww7, ww8, ww9, wwf⟩ := facts10 L14.out.W
  go_wp2_with (at_builtin; refine wpList_append_own_at _ rfl (.tmp 185) (.tmp 186) 29 rfl w.heap.size 5 i0 (.int .u8 0) 1 1 Try.underlying29 hi hz0 hz1 hz2 rfl (by decide) v14 _ _ rfl (L14.out.O.alloc _) ⟨w14.heap.size, 0, none⟩ 1 1 [.int .u8 58] rfl rfl (cell_one_new _ _ _) (ints_one [58]) (by unfold maxLen; omega) (by omega) (by have := L14.out.B.size; simp; omega) ?_; intro v15 w15 hown15 hgrow15 _ hat15)
  have L15 := hidd (L14.out.app hown15 hgrow15 hat15)
  clear hown15 hgrow15 hat15 L14
  clear ww0 ww1 ww2 ww3 ww4 ww5 ww6 ww7 ww8 ww9 wwf
  obtain ⟨ww0, ww1, ww2, ww3, ww4, ww5, ww6, ww7, ww8, ww9, wwf⟩ := facts10 L15.out.W
  refine (put_kp w.heap.size v15 _ _ _ (O % 60) (by omega) 2 _ rfl _ (by omega) (by omega) (by omega) L15.out.B.size L15.out.O).mono ?_
  rintro e w16 ⟨v16, rfl, hown16, hb16, hk16⟩
  have L16 := hidd (L15.out.keep hown16 hb16 hk16)
  clear hown16 hb16 hk16 L15
  clear ww0 ww1 ww2 ww3 ww4 ww5 ww6 ww7 ww8 ww9 wwf
  obtain ⟨ww0, ww1, ww2, ww3, ww4, ww5, ww6, ww7, ww8, ww9, wwf⟩ := facts10 L16.out.W
  go_upto_region 46 with fail
  have L17 := hidd ((L16.out.set8 (.bool true)).set9 (.int .i64 (O : Int)))
  obtain ⟨w17, hw17⟩ : ∃ w17, w17 = ((w16.setCell ⟨Wb, 8, none⟩ (.bool true)).setCell ⟨Wb, 9, none⟩ (.int .i64 (O : Int))) := ⟨_, rfl⟩
  rw [← hw17] at L17 ⊢
  clear hw17 L16
  clear ww0 ww1 ww2 ww3 ww4 ww5 ww6 ww7 ww8 ww9 wwf
  obtain ⟨ww0, ww1, ww2, ww3, ww4, ww5, ww6, ww7, ww8, ww9, wwf⟩ := facts10 L17.out.W
  obtain ⟨X, hX⟩ : ∃ X : List Int, X = dgt 4 y ++ [45] ++ dgt 2 mo ++ [45] ++ dgt 2 d ++ [84] ++ K ++ [43] ++ dgt 2 (O / 60) ++ [58] ++ dgt 2 (O % 60) := ⟨_, rfl⟩
  rw [← hX] at L17 HP
  clear hX
  obtain ⟨g, cap, rfl, hconv⟩ := conv_own (by omega) L17.out.O
  go_wp2_with fail
  refine (zpd_any _ 6 5 y mo d h m 0 O true _ (by omega) HP.out).mono ?_
  rintro e we ⟨rfl, hbe⟩
  have Le := hidd (L17.out.below hbe)
  clear hbe hconv L17
  clear ww0 ww1 ww2 ww3 ww4 ww5 ww6 ww7 ww8 ww9 wwf
  obtain ⟨ww0, ww1, ww2, ww3, ww4, ww5, ww6, ww7, ww8, ww9, wwf⟩ := facts10 Le.out.W
  have hWl : Wb < we.heap.size := Le.out.W.lt
  have hWn : ¬ Wb = we.heap.size := by omega
  unfold Zv
  go_wp2_with fail
  go_ret
  exact ⟨by first | rfl | trivial, Le.out.B.alloc Le.out.B.size _⟩

set_option maxRecDepth 100000 in
set_option maxHeartbeats 8000000 in
theorem lawT5m (y mo d h m s nn : Nat) (mk : Bool) (w : World) (hy : y ≤ 9999) (hmo1 : 1 ≤ mo) (hmo2 : mo ≤ 12) (hd1 : 1 ≤ d) (hd2 : d ≤ 31) (hh : h ≤ 23) (hm : m ≤ 59) (hs : s ≤ 60) (hn : nn ≤ 999999999) (hdy : d ≤ dys y mo) (O : Nat) (hO1 : 0 < O) (hO : O ≤ 899) (K : List Int) (ck : Ck K 5 h m 0) (hK : CLK w.heap.size 5 h m s nn K) :
    Calls Try.prog 6 #[.int .i64 y, .int .i64 mo, .int .i64 d, .int .i64 h, .int .i64 m, .int .i64 s, .int .i64 nn, .int .i64 5, .bool mk, .int .i64 2, .int .i64 (-(O : Int))] w fun e w' => e = .returned (.bool true) ∧ Below w.heap.size w w' := by
  obtain ⟨i0, hi, hz0, hz1, hz2⟩ := info_parts info5
  have q0 : decide ((y : Int) < 0) = false := by simp <;> omega
  have q1 : decide ((9999 : Int) < y) = false := by simp <;> omega
  have q2 : decide ((mo : Int) < 1) = false := by simp <;> omega
  have q3 : decide ((12 : Int) < mo) = false := by simp <;> omega
  have q4 : decide ((d : Int) < 1) = false := by simp <;> omega
  have q5 : decide ((31 : Int) < d) = false := by simp <;> omega
  have q6 : decide ((h : Int) < 0) = false := by simp <;> omega
  have q7 : decide ((23 : Int) < h) = false := by simp <;> omega
  have q8 : decide ((m : Int) < 0) = false := by simp <;> omega
  have q9 : decide ((59 : Int) < m) = false := by simp <;> omega
  have q10 : decide ((s : Int) < 0) = false := by simp <;> omega
  have q11 : decide ((60 : Int) < s) = false := by simp <;> omega
  have q12 : decide ((nn : Int) < 0) = false := by simp <;> omega
  have q13 : decide ((999999999 : Int) < nn) = false := by simp <;> omega
  have qo1 : decide (-(O : Int) < -899) = false := by simp <;> omega
  have qo2 : decide ((899 : Int) < -(O : Int)) = false := by simp <;> omega
  have qo3 : decide (-(O : Int) < 0) = true := by simp <;> omega
  have HP := hidd (RZm y mo d hy hmo1 hmo2 hd1 hd2 hdy ck O hO)
  have HK := hidd hK
  have hKl := ck.len
  have hdd : decide (((dys y mo : Nat) : Int) < d) = false := by simp; omega
  unfold dt3 at HP
  clear ck hK
  go_enter Try.func6, Try.ntmps6
  go_wp2_with fail
  refine (days15 y mo _ hy hmo1 hmo2).mono ?_
  rintro e w0 ⟨rfl, hw0⟩
  have hw0' := hw0.symm
  subst hw0'
  clear hw0
  go_wp2_with fail
  refine (put_kp w.heap.size _ 0 [] _ y rfl 4 _ rfl _ (by omega) (by omega) (by omega) (Nat.le_refl _) (World.ownsRow_nil _ _ _ _)).mono ?_
  rintro e w1 ⟨v1, rfl, hown1, hb1, hk1⟩
  have L2 := hidd (LW.start 5 y hown1 hb1)
  clear hk1 hown1 hb1
  go_upto_region 12 with fail
  obtain ⟨Wb, hWb⟩ : ∃ Wb, Wb = w1.heap.size := ⟨_, rfl⟩
  obtain ⟨w2, hw2⟩ : ∃ w2, w2 = w1.alloc (.cells #[.int .i64 5, .int .i64 5, .int .i64 y, .int .i64 0, .int .i64 0, .int .i64 0, .int .i64 0, .int .i64 0, .bool false, .int .i64 0] 24) := ⟨_, rfl⟩
  rw [← hw2, ← hWb] at L2 ⊢
  clear hw2 hWb w1
  rw [List.nil_append] at L2
  obtain ⟨ww0, ww1, ww2, ww3, ww4, ww5, ww6, ww7, ww8, ww9, wwf⟩ := facts10 L2.out.W
  go_wp2_with (at_builtin; refine wpList_append_own_at _ rfl (.tmp 118) (.tmp 119) 29 rfl w.heap.size 5 i0 (.int .u8 0) 1 1 Try.underlying29 hi hz0 hz1 hz2 rfl (by decide) v1 _ _ rfl (L2.out.O.alloc _) ⟨w2.heap.size, 0, none⟩ 1 1 [.int .u8 45] rfl rfl (cell_one_new _ _ _) (ints_one [45]) (by unfold maxLen; omega) (by omega) (by have := L2.out.B.size; simp; omega) ?_; intro v3 w3 hown3 hgrow3 _ hat3)
  have L3 := hidd (L2.out.app hown3 hgrow3 hat3)
  clear hown3 hgrow3 hat3 L2
  clear ww0 ww1 ww2 ww3 ww4 ww5 ww6 ww7 ww8 ww9 wwf
  obtain ⟨ww0, ww1, ww2, ww3, ww4, ww5, ww6, ww7, ww8, ww9, wwf⟩ := facts10 L3.out.W
  refine (put_kp w.heap.size v3 _ _ _ mo rfl 2 _ rfl _ (by omega) (by omega) (by omega) L3.out.B.size L3.out.O).mono ?_
  rintro e w4 ⟨v4, rfl, hown4, hb4, hk4⟩
  have L4 := hidd (L3.out.keep hown4 hb4 hk4)
  clear hown4 hb4 hk4 L3
  clear ww0 ww1 ww2 ww3 ww4 ww5 ww6 ww7 ww8 ww9 wwf
  obtain ⟨ww0, ww1, ww2, ww3, ww4, ww5, ww6, ww7, ww8, ww9, wwf⟩ := facts10 L4.out.W
  go_upto_region 16 with fail
  have L5 := hidd (L4.out.set3 (.int .i64 mo))
  obtain ⟨w5, hw5⟩ : ∃ w5, w5 = (w4.setCell ⟨Wb, 3, none⟩ (.int .i64 mo)) := ⟨_, rfl⟩
  rw [← hw5] at L5 ⊢
  clear hw5 L4
  clear ww0 ww1 ww2 ww3 ww4 ww5 ww6 ww7 ww8 ww9 wwf
  obtain ⟨ww0, ww1, ww2, ww3, ww4, ww5, ww6, ww7, ww8, ww9, wwf⟩ := facts10 L5.out.W
  go_wp2_with (at_builtin; refine wpList_append_own_at _ rfl (.tmp 128) (.tmp 129) 29 rfl w.heap.size 5 i0 (.int .u8 0) 1 1 Try.underlying29 hi hz0 hz1 hz2 rfl (by decide) v4 _ _ rfl (L5.out.O.alloc _) ⟨w5.heap.size, 0, none⟩ 1 1 [.int .u8 45] rfl rfl (cell_one_new _ _ _) (ints_one [45]) (by unfold maxLen; omega) (by omega) (by have := L5.out.B.size; simp; omega) ?_; intro v6 w6 hown6 hgrow6 _ hat6)
  have L6 := hidd (L5.out.app hown6 hgrow6 hat6)
  clear hown6 hgrow6 hat6 L5
  clear ww0 ww1 ww2 ww3 ww4 ww5 ww6 ww7 ww8 ww9 wwf
  obtain ⟨ww0, ww1, ww2, ww3, ww4, ww5, ww6, ww7, ww8, ww9, wwf⟩ := facts10 L6.out.W
  refine (put_kp w.heap.size v6 _ _ _ d rfl 2 _ rfl _ (by omega) (by omega) (by omega) L6.out.B.size L6.out.O).mono ?_
  rintro e w7 ⟨v7, rfl, hown7, hb7, hk7⟩
  have L7 := hidd (L6.out.keep hown7 hb7 hk7)
  clear hown7 hb7 hk7 L6
  clear ww0 ww1 ww2 ww3 ww4 ww5 ww6 ww7 ww8 ww9 wwf
  obtain ⟨ww0, ww1, ww2, ww3, ww4, ww5, ww6, ww7, ww8, ww9, wwf⟩ := facts10 L7.out.W
  go_upto_region 20 with fail
  have L8 := hidd (L7.out.set4 (.int .i64 d))
  obtain ⟨w8, hw8⟩ : ∃ w8, w8 = (w7.setCell ⟨Wb, 4, none⟩ (.int .i64 d)) := ⟨_, rfl⟩
  rw [← hw8] at L8 ⊢
  clear hw8 L7
  clear ww0 ww1 ww2 ww3 ww4 ww5 ww6 ww7 ww8 ww9 wwf
  obtain ⟨ww0, ww1, ww2, ww3, ww4, ww5, ww6, ww7, ww8, ww9, wwf⟩ := facts10 L8.out.W
  go_upto_region 22 with fail
  have L9 := hidd (L8.out.set0 (.int .i64 6))
  obtain ⟨w9, hw9⟩ : ∃ w9, w9 = (w8.setCell ⟨Wb, 0, none⟩ (.int .i64 6)) := ⟨_, rfl⟩
  rw [← hw9] at L9 ⊢
  clear hw9 L8
  clear ww0 ww1 ww2 ww3 ww4 ww5 ww6 ww7 ww8 ww9 wwf
  obtain ⟨ww0, ww1, ww2, ww3, ww4, ww5, ww6, ww7, ww8, ww9, wwf⟩ := facts10 L9.out.W
  go_wp2_with (at_builtin; refine wpList_append_own_at _ rfl (.tmp 139) (.tmp 140) 29 rfl w.heap.size 5 i0 (.int .u8 0) 1 1 Try.underlying29 hi hz0 hz1 hz2 rfl (by decide) v7 _ _ rfl (L9.out.O.alloc _) ⟨w9.heap.size, 0, none⟩ 1 1 [.int .u8 84] rfl rfl (cell_one_new _ _ _) (ints_one [84]) (by unfold maxLen; omega) (by omega) (by have := L9.out.B.size; simp; omega) ?_; intro v10 w10 hown10 hgrow10 _ hat10)
  have L10 := hidd (L9.out.app hown10 hgrow10 hat10)
  clear hown10 hgrow10 hat10 L9
  clear ww0 ww1 ww2 ww3 ww4 ww5 ww6 ww7 ww8 ww9 wwf
  obtain ⟨ww0, ww1, ww2, ww3, ww4, ww5, ww6, ww7, ww8, ww9, wwf⟩ := facts10 L10.out.W
  refine (HK.out v10 _ _ _ (by omega) L10.out.B.size L10.out.O).mono ?_
  rintro e w11 ⟨v11, rfl, hown11, hb11, hk11⟩
  have L11 := hidd (L10.out.keep hown11 hb11 hk11)
  clear hown11 hb11 hk11 L10
  clear ww0 ww1 ww2 ww3 ww4 ww5 ww6 ww7 ww8 ww9 wwf
  obtain ⟨ww0, ww1, ww2, ww3, ww4, ww5, ww6, ww7, ww8, ww9, wwf⟩ := facts10 L11.out.W
  go_upto_region 29 with fail
  have L12 := hidd ((L11.out.set5 (.int .i64 h)).set6 (.int .i64 m))
  obtain ⟨w12, hw12⟩ : ∃ w12, w12 = ((w11.setCell ⟨Wb, 5, none⟩ (.int .i64 h)).setCell ⟨Wb, 6, none⟩ (.int .i64 m)) := ⟨_, rfl⟩
  rw [← hw12] at L12 ⊢
  clear hw12 L11
  clear ww0 ww1 ww2 ww3 ww4 ww5 ww6 ww7 ww8 ww9 wwf
  obtain ⟨ww0, ww1, ww2, ww3, ww4, ww5, ww6, ww7, ww8, ww9, wwf⟩ := facts10 L12.out.W
  go_wp2_with (at_builtin; refine wpList_append_own_at _ rfl (.tmp 173) (.tmp 174) 29 rfl w.heap.size 5 i0 (.int .u8 0) 1 1 Try.underlying29 hi hz0 hz1 hz2 rfl (by decide) v11 _ _ rfl (L12.out.O.alloc _) ⟨w12.heap.size, 0, none⟩ 1 1 [.int .u8 45] rfl rfl (cell_one_new _ _ _) (ints_one [45]) (by unfold maxLen; omega) (by omega) (by have := L12.out.B.size; simp; omega) ?_; intro v13 w13 hown13 hgrow13 _ hat13)
  have L13 := hidd (L12.out.app hown13 hgrow13 hat13)
  clear hown13 hgrow13 hat13 L12
  clear ww0 ww1 ww2 ww3 ww4 ww5 ww6 ww7 ww8 ww9 wwf
  obtain ⟨ww0, ww1, ww2, ww3, ww4, ww5, ww6, ww7, ww8, ww9, wwf⟩ := facts10 L13.out.W
  refine (put_kp w.heap.size v13 _ _ _ (O / 60) (by omega) 2 _ rfl _ (by omega) (by omega) (by omega) L13.out.B.size L13.out.O).mono ?_
  rintro e w14 ⟨v14, rfl, hown14, hb14, hk14⟩
  have L14 := hidd (L13.out.keep hown14 hb14 hk14)
  clear hown14 hb14 hk14 L13
  clear ww0 ww1 ww2 ww3 ww4 ww5 ww6 ww7 ww8 ww9 wwf
  obtain ⟨ww0, ww1, ww2, ww3, ww4, ww5, ww6, ww7, ww8, ww9, wwf⟩ := facts10 L14.out.W
  go_wp2_with (at_builtin; refine wpList_append_own_at _ rfl (.tmp 185) (.tmp 186) 29 rfl w.heap.size 5 i0 (.int .u8 0) 1 1 Try.underlying29 hi hz0 hz1 hz2 rfl (by decide) v14 _ _ rfl (L14.out.O.alloc _) ⟨w14.heap.size, 0, none⟩ 1 1 [.int .u8 58] rfl rfl (cell_one_new _ _ _) (ints_one [58]) (by unfold maxLen; omega) (by omega) (by have := L14.out.B.size; simp; omega) ?_; intro v15 w15 hown15 hgrow15 _ hat15)
  have L15 := hidd (L14.out.app hown15 hgrow15 hat15)
  clear hown15 hgrow15 hat15 L14
  clear ww0 ww1 ww2 ww3 ww4 ww5 ww6 ww7 ww8 ww9 wwf
  obtain ⟨ww0, ww1, ww2, ww3, ww4, ww5, ww6, ww7, ww8, ww9, wwf⟩ := facts10 L15.out.W
  refine (put_kp w.heap.size v15 _ _ _ (O % 60) (by omega) 2 _ rfl _ (by omega) (by omega) (by omega) L15.out.B.size L15.out.O).mono ?_
  rintro e w16 ⟨v16, rfl, hown16, hb16, hk16⟩
  have L16 := hidd (L15.out.keep hown16 hb16 hk16)
  clear hown16 hb16 hk16 L15
  clear ww0 ww1 ww2 ww3 ww4 ww5 ww6 ww7 ww8 ww9 wwf
  obtain ⟨ww0, ww1, ww2, ww3, ww4, ww5, ww6, ww7, ww8, ww9, wwf⟩ := facts10 L16.out.W
  go_upto_region 46 with fail
  have L17 := hidd ((L16.out.set8 (.bool true)).set9 (.int .i64 (-(O : Int))))
  obtain ⟨w17, hw17⟩ : ∃ w17, w17 = ((w16.setCell ⟨Wb, 8, none⟩ (.bool true)).setCell ⟨Wb, 9, none⟩ (.int .i64 (-(O : Int)))) := ⟨_, rfl⟩
  rw [← hw17] at L17 ⊢
  clear hw17 L16
  clear ww0 ww1 ww2 ww3 ww4 ww5 ww6 ww7 ww8 ww9 wwf
  obtain ⟨ww0, ww1, ww2, ww3, ww4, ww5, ww6, ww7, ww8, ww9, wwf⟩ := facts10 L17.out.W
  obtain ⟨X, hX⟩ : ∃ X : List Int, X = dgt 4 y ++ [45] ++ dgt 2 mo ++ [45] ++ dgt 2 d ++ [84] ++ K ++ [45] ++ dgt 2 (O / 60) ++ [58] ++ dgt 2 (O % 60) := ⟨_, rfl⟩
  rw [← hX] at L17 HP
  clear hX
  obtain ⟨g, cap, rfl, hconv⟩ := conv_own (by omega) L17.out.O
  go_wp2_with fail
  refine (zpd_any _ 6 5 y mo d h m 0 (-(O : Int)) true _ (by omega) HP.out).mono ?_
  rintro e we ⟨rfl, hbe⟩
  have Le := hidd (L17.out.below hbe)
  clear hbe hconv L17
  clear ww0 ww1 ww2 ww3 ww4 ww5 ww6 ww7 ww8 ww9 wwf
  obtain ⟨ww0, ww1, ww2, ww3, ww4, ww5, ww6, ww7, ww8, ww9, wwf⟩ := facts10 Le.out.W
  have hWl : Wb < we.heap.size := Le.out.W.lt
  have hWn : ¬ Wb = we.heap.size := by omega
  unfold Zv
  go_wp2_with fail
  go_ret
  exact ⟨by first | rfl | trivial, Le.out.B.alloc Le.out.B.size _⟩

end Go.Proofs.Qxb6600803a
