import Derived.Test.Qxb6600803aWalkR
namespace Go.Proofs.Qxb6600803a
open Go.RowKit Tm
set_option linter.unusedVariables false
set_option linter.unusedSimpArgs false

/-- of what was there only the row of v has turned, and the row of v' is that one or a new one -/
structure Kp (w w' : World) (v v' : Value) : Prop where
  g : w.grownBy w' v.ownBlock
  a : v'.ownBlock = v.ownBlock ∨ ∃ k, w.heap.size ≤ k ∧ v'.ownBlock = some k
theorem Kp.trans {w w1 w2 : World} {v v1 v2 : Value} (h : Kp w w1 v v1) (k : Kp w1 w2 v1 v2) : Kp w w2 v v2 := by
  refine ⟨⟨k.g.os.trans h.g.os, k.g.tape.trans h.g.tape, k.g.output.trans h.g.output, Nat.le_trans h.g.size k.g.size, fun i hi hne => (k.g.block i (Nat.lt_of_lt_of_le hi h.g.size) (fun e => ?_)).trans (h.g.block i hi hne)⟩, ?_⟩
  · rcases h.a with e1 | ⟨j, hj, e1⟩
    · exact hne (e.trans e1)
    · rw [e1] at e
      injection e with e
      omega
  · rcases k.a with e1 | ⟨j, hj, e1⟩
    · rcases h.a with e2 | ⟨j, hj, e2⟩
      · exact .inl (e1.trans e2)
      · exact .inr ⟨j, hj, e1.trans e2⟩
    · exact .inr ⟨j, Nat.le_trans h.g.size hj, e1⟩
theorem Kp.below {w wr : World} {v : Value} (hb : Below w.heap.size w wr) : Kp w wr v v := ⟨⟨hb.os, hb.tape, hb.output, hb.size, fun i hi _ => hb.block i hi⟩, .inl rfl⟩
theorem Kp.app0 {w w' : World} {v v' : Value} (hg : w.grownBy w' v.ownBlock) (hat : v'.ownBlock = v.ownBlock ∨ v'.ownBlock = some w.heap.size) : Kp w w' v v' := ⟨hg, hat.elim .inl (fun h => .inr ⟨_, Nat.le_refl _, h⟩)⟩
theorem Kp.app {w w' : World} {v v' : Value} {ob : Obj} (hg : (w.alloc ob).grownBy w' v.ownBlock) (hat : v'.ownBlock = v.ownBlock ∨ v'.ownBlock = some (w.alloc ob).heap.size) : Kp w w' v v' :=
  (Kp.below ((Below.refl _ _).alloc (Nat.le_refl _) ob)).trans (Kp.app0 hg hat)

set_option maxRecDepth 100000 in
set_option maxHeartbeats 1000000 in
theorem put_kp (base : Nat) (v : Value) (n : Nat) (xs : List Int) (y : Int) (x : Nat) (hy : y = x) (wd : Nat) (z : Int) (hz : z = wd) (w : World) (hx : x ≤ 1000000000) (hn : n ≤ 100000) (hwd : wd ≤ 9) (hbase : base ≤ w.heap.size) (hown : w.ownsRow base 5 1 v n (xs.map (Value.int .u8))) :
    Calls Try.prog 16 #[v, .int .i64 y, .int .i64 z] w fun e w' => ∃ v', e = .returned v' ∧ w'.ownsRow base 5 1 v' (n + wd) ((xs ++ dgt wd x).map (Value.int .u8)) ∧ Below base w w' ∧ Kp w w' v v' := by
  subst hy
  subst hz
  obtain ⟨i0, hi, hz0, hz1, hz2⟩ := info_parts info5
  have HO := hidd hown
  clear hown
  go_enter Try.func16, Try.ntmps16
  go_wp2_with fail
  go_loopw [1, 8] (fun vv vi wr => ∃ (m y : Nat) (rest : List Int), m ≤ wd ∧ y ≤ 1000000000 ∧ vv = .int .i64 y ∧ vi = .int .i64 ((m : Int) - 1) ∧ Hid (rest.length + m = wd) ∧ Hid (dgt wd x = dgt m y ++ rest) ∧ Hid (wr.rowIs w.heap.size 45 9 (dgf m wd rest)) ∧ Hid (Below w.heap.size w wr)) (fun _ vi _ => (intOf vi + 1).toNat)
  case atStart =>
    refine ⟨wd, x, [], Nat.le_refl _, hx, rfl, rfl, by show _ = _; simp, by show _ = _; simp, ?_, (Below.refl _ _).alloc (Nat.le_refl _) _⟩
    exact (row9 w).congr (fun j hj => by unfold dgf; rw [if_neg (by omega)])
  case round =>
    obtain ⟨m, y, rest, hm, hy, rfl, rfl, hlen, hdg, hrw, hbl⟩ := hrel
    by_cases hm0 : 0 < m
    · have hf1 : wr.frozen? ⟨w.heap.size, m - 1, none⟩ = false := hrw.out.frozen _
      obtain ⟨v0, hv0⟩ : ∃ v0, wr.cell? ⟨w.heap.size, m - 1, none⟩ = some v0 := ⟨_, hrw.out.cell (i := m - 1) (by omega)⟩
      go_wp2_with fail
      go_roundw
      case rel =>
        refine ⟨m - 1, y / 10, (48 + (y : Int) % 10) :: rest, by omega, by omega, by go_num, by go_num, ?_, ?_, ?_, hbl.out.setCell (Nat.le_refl _) _⟩
        · show _ = _
          have := hlen.out
          rw [List.length_cons]; omega
        · show _ = _
          rw [hdg.out]
          obtain ⟨m', rfl⟩ : ∃ m', m = m' + 1 := ⟨m - 1, by omega⟩
          rw [dgt, Nat.add_sub_cancel, List.append_assoc]
          rfl
        · exact (hrw.out.set (m - 1) _).congr (fun j hj => dgf_step m wd rest _ hm0 hm j)
      case measure => simp [intOf]; omega
    · have hmz : m = 0 := by omega
      have hl : rest.length = wd := by have := hlen.out; omega
      have hr : dgt wd x = rest := by have := hdg.out; rw [hmz] at this; simpa [dgt] using this
      have hrow : wr.rowIs w.heap.size 45 9 (dgf 0 wd rest) := by have := hrw.out; rw [hmz] at this; exact this
      have hnews := news_of hrow hwd hl wd (Nat.le_refl _)
      rw [List.take_of_length_le (by omega)] at hnews
      have hown := own_below HO.out hbl.out
      have hsz : w.heap.size ≤ wr.heap.size := hbl.out.size
      have hsl := sl45 w.heap.size wd hwd
      have HL := hidd hl
      have HR := hidd hr
      have HN := hidd hnews
      clear hl hr hnews hmz hlen hdg hrw hrow
      go_wp2_with (at_builtin; refine wpList_append_own_at _ rfl (.tmp 23) (.tmp 25) 29 rfl base 5 i0 (.int .u8 0) 1 1 Try.underlying29 hi hz0 hz1 hz2 rfl (by decide) v n (xs.map (Value.int .u8)) rfl hown ⟨w.heap.size, 0, none⟩ wd 9 (rest.map (Value.int .u8)) rfl (by rw [List.length_map, HL.out, Nat.mul_one]) HN.out (ints_one rest) (by unfold maxLen; omega) (by omega) (by omega) ?_; intro v' w1 hown1 hgrow1 _ hat1)
      go_ret
      exact ⟨v', rfl, by rw [HR.out, List.map_append]; exact hown1, (hbl.out.mono hbase).grown hgrow1 (by omega) (own_ge hown), (Kp.below hbl.out).trans (Kp.app0 hgrow1 hat1)⟩

set_option maxRecDepth 100000 in
set_option maxHeartbeats 1000000 in
theorem clk4k (base : Nat) (v : Value) (n : Nat) (xs : List Int) (h m sec nanos : Nat) (w : World) (hn : n ≤ 1000) (hh : h ≤ 99) (hm : m ≤ 99) (hsec : sec ≤ 99) (hnan : nanos ≤ 999999999) (hbase : base ≤ w.heap.size) (hown0 : w.ownsRow base 5 1 v n (xs.map (Value.int .u8))) :
    Calls Try.prog 11 #[v, .int .i64 4, .int .i64 h, .int .i64 m, .int .i64 sec, .int .i64 nanos] w fun e w' => ∃ v', e = .returned v' ∧ w'.ownsRow base 5 1 v' (n + 2) ((xs ++ (dgt 2 h)).map (Value.int .u8)) ∧ Below base w w' ∧ Kp w w' v v' := by
  obtain ⟨i0, hi, hz0, hz1, hz2⟩ := info_parts info5
  go_enter Try.func11, Try.ntmps11
  go_wp2_with fail
  refine (put_kp base v (n) (xs) _ h rfl 2 _ rfl _ (by omega) (by omega) (by omega) (by omega) hown0).mono ?_
  rintro e w1 ⟨v1, rfl, hown1, hb1', hk1⟩
  have k1 : Kp w w1 v v1 := hk1
  clear hk1
  have hb1 : Below base w w1 := (Below.refl _ _).trans hb1'
  have hs1 : base ≤ w1.heap.size := Nat.le_trans hbase hb1.size
  go_wp2_with fail
  go_ret
  exact ⟨v1, rfl, hown1, hb1, k1⟩

set_option maxRecDepth 100000 in
set_option maxHeartbeats 1000000 in
theorem clk5k (base : Nat) (v : Value) (n : Nat) (xs : List Int) (h m sec nanos : Nat) (w : World) (hn : n ≤ 1000) (hh : h ≤ 99) (hm : m ≤ 99) (hsec : sec ≤ 99) (hnan : nanos ≤ 999999999) (hbase : base ≤ w.heap.size) (hown0 : w.ownsRow base 5 1 v n (xs.map (Value.int .u8))) :
    Calls Try.prog 11 #[v, .int .i64 5, .int .i64 h, .int .i64 m, .int .i64 sec, .int .i64 nanos] w fun e w' => ∃ v', e = .returned v' ∧ w'.ownsRow base 5 1 v' (n + 2 + 1 + 2) ((xs ++ (dgt 2 h ++ [58] ++ dgt 2 m)).map (Value.int .u8)) ∧ Below base w w' ∧ Kp w w' v v' := by
  obtain ⟨i0, hi, hz0, hz1, hz2⟩ := info_parts info5
  go_enter Try.func11, Try.ntmps11
  go_wp2_with fail
  refine (put_kp base v (n) (xs) _ h rfl 2 _ rfl _ (by omega) (by omega) (by omega) (by omega) hown0).mono ?_
  rintro e w1 ⟨v1, rfl, hown1, hb1', hk1⟩
  have k1 : Kp w w1 v v1 := hk1
  clear hk1
  have hb1 : Below base w w1 := (Below.refl _ _).trans hb1'
  have hs1 : base ≤ w1.heap.size := Nat.le_trans hbase hb1.size
  go_wp2_with (at_builtin; refine wpList_append_own_at _ rfl (.tmp 22) (.tmp 23) 29 rfl base 5 i0 (.int .u8 0) 1 1 Try.underlying29 hi hz0 hz1 hz2 rfl (by decide) v1 (n + 2) _ rfl (hown1.alloc _) ⟨w1.heap.size, 0, none⟩ 1 1 [.int .u8 58] rfl rfl (cell_one_new _ _ _) (ints_one [58]) (by unfold maxLen; omega) (by omega) (by simp; omega) ?_; intro v2 w2 hown2 hgrow2 _ hat2)
  have k2 : Kp w w2 v v2 := k1.trans (Kp.app hgrow2 hat2)
  obtain ⟨hown2', hb2⟩ := app1 hb1 hs1 hown1 hown2 hgrow2
  have hs2 : base ≤ w2.heap.size := Nat.le_trans hbase hb2.size
  clear hgrow2 hown2 hat2
  refine (put_kp base v2 (n + 2 + 1) (xs ++ dgt 2 h ++ [58]) _ m rfl 2 _ rfl _ (by omega) (by omega) (by omega) (by omega) hown2').mono ?_
  rintro e w3 ⟨v3, rfl, hown3, hb3', hk3⟩
  have k3 : Kp w w3 v v3 := k2.trans hk3
  clear hk3
  have hb3 : Below base w w3 := hb2.trans hb3'
  have hs3 : base ≤ w3.heap.size := Nat.le_trans hbase hb3.size
  go_wp2_with fail
  go_ret
  exact ⟨v3, rfl, by simpa using hown3, hb3, k3⟩

set_option maxRecDepth 100000 in
set_option maxHeartbeats 1000000 in
theorem clk6k (base : Nat) (v : Value) (n : Nat) (xs : List Int) (h m sec nanos : Nat) (w : World) (hn : n ≤ 1000) (hh : h ≤ 99) (hm : m ≤ 99) (hsec : sec ≤ 99) (hnan : nanos ≤ 999999999) (hnz : nanos = 0) (hbase : base ≤ w.heap.size) (hown0 : w.ownsRow base 5 1 v n (xs.map (Value.int .u8))) :
    Calls Try.prog 11 #[v, .int .i64 6, .int .i64 h, .int .i64 m, .int .i64 sec, .int .i64 nanos] w fun e w' => ∃ v', e = .returned v' ∧ w'.ownsRow base 5 1 v' (n + 2 + 1 + 2 + 1 + 2) ((xs ++ (dgt 2 h ++ [58] ++ dgt 2 m ++ [58] ++ dgt 2 sec)).map (Value.int .u8)) ∧ Below base w w' ∧ Kp w w' v v' := by
  subst hnz
  obtain ⟨i0, hi, hz0, hz1, hz2⟩ := info_parts info5
  go_enter Try.func11, Try.ntmps11
  go_wp2_with fail
  refine (put_kp base v (n) (xs) _ h rfl 2 _ rfl _ (by omega) (by omega) (by omega) (by omega) hown0).mono ?_
  rintro e w1 ⟨v1, rfl, hown1, hb1', hk1⟩
  have k1 : Kp w w1 v v1 := hk1
  clear hk1
  have hb1 : Below base w w1 := (Below.refl _ _).trans hb1'
  have hs1 : base ≤ w1.heap.size := Nat.le_trans hbase hb1.size
  go_wp2_with (at_builtin; refine wpList_append_own_at _ rfl (.tmp 22) (.tmp 23) 29 rfl base 5 i0 (.int .u8 0) 1 1 Try.underlying29 hi hz0 hz1 hz2 rfl (by decide) v1 (n + 2) _ rfl (hown1.alloc _) ⟨w1.heap.size, 0, none⟩ 1 1 [.int .u8 58] rfl rfl (cell_one_new _ _ _) (ints_one [58]) (by unfold maxLen; omega) (by omega) (by simp; omega) ?_; intro v2 w2 hown2 hgrow2 _ hat2)
  have k2 : Kp w w2 v v2 := k1.trans (Kp.app hgrow2 hat2)
  obtain ⟨hown2', hb2⟩ := app1 hb1 hs1 hown1 hown2 hgrow2
  have hs2 : base ≤ w2.heap.size := Nat.le_trans hbase hb2.size
  clear hgrow2 hown2 hat2
  refine (put_kp base v2 (n + 2 + 1) (xs ++ dgt 2 h ++ [58]) _ m rfl 2 _ rfl _ (by omega) (by omega) (by omega) (by omega) hown2').mono ?_
  rintro e w3 ⟨v3, rfl, hown3, hb3', hk3⟩
  have k3 : Kp w w3 v v3 := k2.trans hk3
  clear hk3
  have hb3 : Below base w w3 := hb2.trans hb3'
  have hs3 : base ≤ w3.heap.size := Nat.le_trans hbase hb3.size
  go_wp2_with (at_builtin; refine wpList_append_own_at _ rfl (.tmp 30) (.tmp 31) 29 rfl base 5 i0 (.int .u8 0) 1 1 Try.underlying29 hi hz0 hz1 hz2 rfl (by decide) v3 (n + 2 + 1 + 2) _ rfl (hown3.alloc _) ⟨w3.heap.size, 0, none⟩ 1 1 [.int .u8 58] rfl rfl (cell_one_new _ _ _) (ints_one [58]) (by unfold maxLen; omega) (by omega) (by simp; omega) ?_; intro v4 w4 hown4 hgrow4 _ hat4)
  have k4 : Kp w w4 v v4 := k3.trans (Kp.app hgrow4 hat4)
  obtain ⟨hown4', hb4⟩ := app1 hb3 hs3 hown3 hown4 hgrow4
  have hs4 : base ≤ w4.heap.size := Nat.le_trans hbase hb4.size
  clear hgrow4 hown4 hat4
  refine (put_kp base v4 (n + 2 + 1 + 2 + 1) (xs ++ dgt 2 h ++ [58] ++ dgt 2 m ++ [58]) _ sec rfl 2 _ rfl _ (by omega) (by omega) (by omega) (by omega) hown4').mono ?_
  rintro e w5 ⟨v5, rfl, hown5, hb5', hk5⟩
  have k5 : Kp w w5 v v5 := k4.trans hk5
  clear hk5
  have hb5 : Below base w w5 := hb4.trans hb5'
  have hs5 : base ≤ w5.heap.size := Nat.le_trans hbase hb5.size
  go_wp2_with fail
  go_ret
  exact ⟨v5, rfl, by simpa using hown5, hb5, k5⟩

set_option maxRecDepth 100000 in
set_option maxHeartbeats 1000000 in
theorem clk7k (base : Nat) (v : Value) (n : Nat) (xs : List Int) (h m sec nanos : Nat) (w : World) (hn : n ≤ 1000) (hh : h ≤ 99) (hm : m ≤ 99) (hsec : sec ≤ 99) (hnan : nanos ≤ 999999999) (hnz : 0 < nanos) (hbase : base ≤ w.heap.size) (hown0 : w.ownsRow base 5 1 v n (xs.map (Value.int .u8))) :
    Calls Try.prog 11 #[v, .int .i64 6, .int .i64 h, .int .i64 m, .int .i64 sec, .int .i64 nanos] w fun e w' => ∃ v', e = .returned v' ∧ w'.ownsRow base 5 1 v' (n + 2 + 1 + 2 + 1 + 2 + 1 + trim (dgt 9 nanos) 9) ((xs ++ (dgt 2 h ++ [58] ++ dgt 2 m ++ [58] ++ dgt 2 sec ++ [46] ++ (dgt 9 nanos).take (trim (dgt 9 nanos) 9))).map (Value.int .u8)) ∧ Below base w w' ∧ Kp w w' v v' := by
  obtain ⟨i0, hi, hz0, hz1, hz2⟩ := info_parts info5
  go_enter Try.func11, Try.ntmps11
  go_wp2_with fail
  refine (put_kp base v (n) (xs) _ h rfl 2 _ rfl _ (by omega) (by omega) (by omega) (by omega) hown0).mono ?_
  rintro e w1 ⟨v1, rfl, hown1, hb1', hk1⟩
  have k1 : Kp w w1 v v1 := hk1
  clear hk1
  have hb1 : Below base w w1 := (Below.refl _ _).trans hb1'
  have hs1 : base ≤ w1.heap.size := Nat.le_trans hbase hb1.size
  go_wp2_with (at_builtin; refine wpList_append_own_at _ rfl (.tmp 22) (.tmp 23) 29 rfl base 5 i0 (.int .u8 0) 1 1 Try.underlying29 hi hz0 hz1 hz2 rfl (by decide) v1 (n + 2) _ rfl (hown1.alloc _) ⟨w1.heap.size, 0, none⟩ 1 1 [.int .u8 58] rfl rfl (cell_one_new _ _ _) (ints_one [58]) (by unfold maxLen; omega) (by omega) (by simp; omega) ?_; intro v2 w2 hown2 hgrow2 _ hat2)
  have k2 : Kp w w2 v v2 := k1.trans (Kp.app hgrow2 hat2)
  obtain ⟨hown2', hb2⟩ := app1 hb1 hs1 hown1 hown2 hgrow2
  have hs2 : base ≤ w2.heap.size := Nat.le_trans hbase hb2.size
  clear hgrow2 hown2 hat2
  refine (put_kp base v2 (n + 2 + 1) (xs ++ dgt 2 h ++ [58]) _ m rfl 2 _ rfl _ (by omega) (by omega) (by omega) (by omega) hown2').mono ?_
  rintro e w3 ⟨v3, rfl, hown3, hb3', hk3⟩
  have k3 : Kp w w3 v v3 := k2.trans hk3
  clear hk3
  have hb3 : Below base w w3 := hb2.trans hb3'
  have hs3 : base ≤ w3.heap.size := Nat.le_trans hbase hb3.size
  go_wp2_with (at_builtin; refine wpList_append_own_at _ rfl (.tmp 30) (.tmp 31) 29 rfl base 5 i0 (.int .u8 0) 1 1 Try.underlying29 hi hz0 hz1 hz2 rfl (by decide) v3 (n + 2 + 1 + 2) _ rfl (hown3.alloc _) ⟨w3.heap.size, 0, none⟩ 1 1 [.int .u8 58] rfl rfl (cell_one_new _ _ _) (ints_one [58]) (by unfold maxLen; omega) (by omega) (by simp; omega) ?_; intro v4 w4 hown4 hgrow4 _ hat4)
  have k4 : Kp w w4 v v4 := k3.trans (Kp.app hgrow4 hat4)
  obtain ⟨hown4', hb4⟩ := app1 hb3 hs3 hown3 hown4 hgrow4
  have hs4 : base ≤ w4.heap.size := Nat.le_trans hbase hb4.size
  clear hgrow4 hown4 hat4
  refine (put_kp base v4 (n + 2 + 1 + 2 + 1) (xs ++ dgt 2 h ++ [58] ++ dgt 2 m ++ [58]) _ sec rfl 2 _ rfl _ (by omega) (by omega) (by omega) (by omega) hown4').mono ?_
  rintro e w5 ⟨v5, rfl, hown5, hb5', hk5⟩
  have k5 : Kp w w5 v v5 := k4.trans hk5
  clear hk5
  have hb5 : Below base w w5 := hb4.trans hb5'
  have hs5 : base ≤ w5.heap.size := Nat.le_trans hbase hb5.size
  have HB5 := hidd hb5
  have HO5 := hidd hown5
  obtain ⟨n5, hn5⟩ : ∃ n5, n5 = n + 2 + 1 + 2 + 1 + 2 := ⟨_, rfl⟩
  obtain ⟨xs5, hxs5⟩ : ∃ xs5, xs5 = xs ++ dgt 2 h ++ [58] ++ dgt 2 m ++ [58] ++ dgt 2 sec := ⟨_, rfl⟩
  rw [← hn5, ← hxs5] at HO5
  have hn5b : n5 ≤ 2000 := by omega
  have HN5 := hidd hn5
  have HX5 := hidd hxs5
  clear hb1 hb2 hb3 hb4 hb5 hown0 hown1 hown2' hown3 hown4' hown5 hn5 hxs5 hb1' hb3' hb5'
  go_wp2_with fail
  go_loopw [14, 15] (fun vv vi wr => ∃ (k y : Nat) (rest : List Int), k ≤ 9 ∧ y ≤ 1000000000 ∧ vv = .int .i64 y ∧ vi = .int .i64 ((k : Int) - 1) ∧ Hid (rest.length + k = 9) ∧ Hid (dgt 9 nanos = dgt k y ++ rest) ∧ Hid (wr.rowIs w5.heap.size 45 9 (dgf k 9 rest)) ∧ Hid (Below w5.heap.size w5 wr)) (fun _ vi _ => (intOf vi + 1).toNat)
  case atStart =>
    refine ⟨9, nanos, [], Nat.le_refl _, by omega, rfl, rfl, by show _ = _; simp, by show _ = _; simp, ?_, (Below.refl _ _).alloc (Nat.le_refl _) _⟩
    exact (row9 w5).congr (fun j hj => by unfold dgf; rw [if_neg (by omega)])
  case round =>
    obtain ⟨k, y, rest, hk, hy, rfl, rfl, hlen, hdg, hrw, hbl⟩ := hrel
    by_cases hk0 : 0 < k
    · have hf1 : wr.frozen? ⟨w5.heap.size, k - 1, none⟩ = false := hrw.out.frozen _
      obtain ⟨v0, hv0⟩ : ∃ v0, wr.cell? ⟨w5.heap.size, k - 1, none⟩ = some v0 := ⟨_, hrw.out.cell (i := k - 1) (by omega)⟩
      go_wp2_with fail
      go_roundw
      case rel =>
        refine ⟨k - 1, y / 10, (48 + (y : Int) % 10) :: rest, by omega, by omega, by go_num, by go_num, ?_, ?_, ?_, hbl.out.setCell (Nat.le_refl _) _⟩
        · show _ = _
          have := hlen.out
          rw [List.length_cons]; omega
        · show _ = _
          rw [hdg.out]
          obtain ⟨k', rfl⟩ : ∃ k', k = k' + 1 := ⟨k - 1, by omega⟩
          rw [dgt, Nat.add_sub_cancel, List.append_assoc]
          rfl
        · exact (hrw.out.set (k - 1) _).congr (fun j hj => dgf_step k 9 rest _ hk0 hk j)
      case measure => simp [intOf]; omega
    · have hkz : k = 0 := by omega
      have hl : rest.length = 9 := by have := hlen.out; omega
      have hr : dgt 9 nanos = rest := by have := hdg.out; rw [hkz] at this; simpa [dgt] using this
      have hrow : wr.rowIs w5.heap.size 45 9 (dgf 0 9 rest) := by have := hrw.out; rw [hkz] at this; exact this
      have HL := hidd hl
      have HR := hidd hr
      have HROW := hidd hrow
      have HBL := hidd hbl.out
      have hcs : ∀ j, j < 9 → wr.cell? ⟨w5.heap.size, j, none⟩ = some (.int .u8 (rest.getD j 0)) := fun j hj => by
        have := hrow.cell (i := j) hj
        rw [this]; unfold dgf; rw [if_pos (by omega), Nat.sub_zero]
      have HCS := hidd hcs
      clear hl hr hrow hkz hlen hdg hrw hbl hcs
      go_wp2_with fail
      go_loop [16] (fun vn => ∃ q : Nat, vn = .int .i64 q ∧ 0 < q ∧ q ≤ 9 ∧ Hid (trim rest q = trim rest 9)) (fun vn => (intOf vn).toNat)
      case atStart => exact ⟨9, rfl, by omega, by omega, rfl⟩
      case round =>
        obtain ⟨q, rfl, hq0, hq9, htr⟩ := hrel
        by_cases hq1 : 1 < q
        · have hcq := HCS.out (q - 1) (by omega)
          by_cases h48 : rest.getD (q - 1) 0 = 48
          · have e48 : (rest.getD (q - 1) 0 == 48) = true := by rw [h48]; rfl
            obtain ⟨c, hc⟩ : ∃ c, c = rest.getD (q - 1) 0 := ⟨_, rfl⟩
            rw [← hc] at hcq e48
            have HT : Hid (trim rest (q - 1) = trim rest 9) := by
              show _ = _
              have := htr.out
              obtain ⟨q', rfl⟩ : ∃ q', q = q' + 2 := ⟨q - 2, by omega⟩
              rw [trim, if_pos (show rest.getD (q' + 1) 0 = 48 from h48)] at this
              exact this
            clear hc h48 htr
            go_wp2_with fail
            go_round
            case rel => exact ⟨q - 1, by go_num, by omega, by omega, HT⟩
            case measure => simp [intOf]; omega
          · have e48 : (rest.getD (q - 1) 0 == 48) = false := by simpa using h48
            obtain ⟨c, hc⟩ : ∃ c, c = rest.getD (q - 1) 0 := ⟨_, rfl⟩
            rw [← hc] at hcq e48
            have HT : Hid (q = trim rest 9) := by
              show _ = _
              have := htr.out
              obtain ⟨q', rfl⟩ : ∃ q', q = q' + 2 := ⟨q - 2, by omega⟩
              rw [trim, if_neg (show ¬ rest.getD (q' + 1) 0 = 48 from h48)] at this
              exact this
            clear hc h48 htr
            have hown := own_below HO5.out HBL.out
            have hws : w5.heap.size ≤ wr.heap.size := HBL.out.size
            have hsl := sl45 w5.heap.size q hq9
            go_upto_region 20 with (at_builtin; refine wpList_append_own_at _ rfl (.tmp 62) (.tmp 63) 29 rfl base 5 i0 (.int .u8 0) 1 1 Try.underlying29 hi hz0 hz1 hz2 rfl (by decide) v5 n5 _ rfl (hown.alloc _) ⟨wr.heap.size, 0, none⟩ 1 1 [.int .u8 46] rfl rfl (cell_one_new _ _ _) (ints_one [46]) (by unfold maxLen; omega) (by omega) (by simp; omega) ?_; intro v6 w6 hown6 hgrow6 _ hat6)
            have hnw : ∀ j u, ((rest.take q).map (Value.int .u8))[j]? = some u → w6.cell? ((⟨w5.heap.size, 0, none⟩ : Addr).add j) = some u := fun j u hj => by
              have h0 := news_of HROW.out (by omega) HL.out q hq9 j u hj
              have e : (⟨w5.heap.size, 0, none⟩ : Addr).add j = ⟨w5.heap.size, j, none⟩ := by unfold Addr.add; split <;> simp_all
              rw [e] at h0 ⊢
              have hne : some w5.heap.size ≠ v5.ownBlock := own_ne HO5.out
              have hbk := hgrow6.block w5.heap.size (by have := HROW.out.lt; simp; omega) hne
              have hb2 := Below.heap_alloc wr (.cells #[.int .u8 46] 5) w5.heap.size HROW.out.lt
              rw [World.cell?_of_block (w := wr) (hbk.trans hb2)]
              exact h0
            have k6 : Kp w w6 v v6 := k5.trans ((Kp.below HBL.out).trans (Kp.app hgrow6 hat6))
            obtain ⟨hown6', hb6⟩ := app1 (HB5.out.trans (HBL.out.mono hs5)) (Nat.le_trans hs5 hws) hown hown6 hgrow6
            have hs6 : base ≤ w6.heap.size := Nat.le_trans hbase hb6.size
            have HNW := hidd hnw
            have HB6 := hidd hb6
            clear hnw hb6 hown6 hgrow6 hown hat6
            go_wp2_with (at_builtin; refine wpList_append_own_at _ rfl (.tmp 65) (.tmp 67) 29 rfl base 5 i0 (.int .u8 0) 1 1 Try.underlying29 hi hz0 hz1 hz2 rfl (by decide) v6 (n5 + 1) _ rfl hown6' ⟨w5.heap.size, 0, none⟩ q 9 ((rest.take q).map (Value.int .u8)) rfl (by rw [List.length_map, List.length_take, HL.out, Nat.mul_one]; omega) HNW.out (ints_one _) (by unfold maxLen; omega) (by omega) (by omega) ?_; intro v7 w7 hown7 hgrow7 _ hat7)
            go_ret
            refine ⟨v7, rfl, ?_, HB6.out.grown hgrow7 (by omega) (own_ge hown6'), k6.trans (Kp.app0 hgrow7 hat7)⟩
            rw [HR.out, ← HT.out]
            have e5 := HN5.out
            have e6 := HX5.out
            rw [e5, e6] at hown7
            simpa using hown7
        · have HT : Hid (q = trim rest 9) := by
            show _ = _
            have := htr.out
            have hq : q = 1 := by omega
            rw [hq] at this ⊢
            simpa [trim] using this
          clear htr
          have hown := own_below HO5.out HBL.out
          have hws : w5.heap.size ≤ wr.heap.size := HBL.out.size
          have hsl := sl45 w5.heap.size q hq9
          go_upto_region 20 with (at_builtin; refine wpList_append_own_at _ rfl (.tmp 62) (.tmp 63) 29 rfl base 5 i0 (.int .u8 0) 1 1 Try.underlying29 hi hz0 hz1 hz2 rfl (by decide) v5 n5 _ rfl (hown.alloc _) ⟨wr.heap.size, 0, none⟩ 1 1 [.int .u8 46] rfl rfl (cell_one_new _ _ _) (ints_one [46]) (by unfold maxLen; omega) (by omega) (by simp; omega) ?_; intro v6 w6 hown6 hgrow6 _ hat6)
          have hnw : ∀ j u, ((rest.take q).map (Value.int .u8))[j]? = some u → w6.cell? ((⟨w5.heap.size, 0, none⟩ : Addr).add j) = some u := fun j u hj => by
            have h0 := news_of HROW.out (by omega) HL.out q hq9 j u hj
            have e : (⟨w5.heap.size, 0, none⟩ : Addr).add j = ⟨w5.heap.size, j, none⟩ := by unfold Addr.add; split <;> simp_all
            rw [e] at h0 ⊢
            have hne : some w5.heap.size ≠ v5.ownBlock := own_ne HO5.out
            have hbk := hgrow6.block w5.heap.size (by have := HROW.out.lt; simp; omega) hne
            have hb2 := Below.heap_alloc wr (.cells #[.int .u8 46] 5) w5.heap.size HROW.out.lt
            rw [World.cell?_of_block (w := wr) (hbk.trans hb2)]
            exact h0
          have k6 : Kp w w6 v v6 := k5.trans ((Kp.below HBL.out).trans (Kp.app hgrow6 hat6))
          obtain ⟨hown6', hb6⟩ := app1 (HB5.out.trans (HBL.out.mono hs5)) (Nat.le_trans hs5 hws) hown hown6 hgrow6
          have hs6 : base ≤ w6.heap.size := Nat.le_trans hbase hb6.size
          have HNW := hidd hnw
          have HB6 := hidd hb6
          clear hnw hb6 hown6 hgrow6 hown hat6
          go_wp2_with (at_builtin; refine wpList_append_own_at _ rfl (.tmp 65) (.tmp 67) 29 rfl base 5 i0 (.int .u8 0) 1 1 Try.underlying29 hi hz0 hz1 hz2 rfl (by decide) v6 (n5 + 1) _ rfl hown6' ⟨w5.heap.size, 0, none⟩ q 9 ((rest.take q).map (Value.int .u8)) rfl (by rw [List.length_map, List.length_take, HL.out, Nat.mul_one]; omega) HNW.out (ints_one _) (by unfold maxLen; omega) (by omega) (by omega) ?_; intro v7 w7 hown7 hgrow7 _ hat7)
          go_ret
          refine ⟨v7, rfl, ?_, HB6.out.grown hgrow7 (by omega) (own_ge hown6'), k6.trans (Kp.app0 hgrow7 hat7)⟩
          rw [HR.out, ← HT.out]
          have e5 := HN5.out
          have e6 := HX5.out
          rw [e5, e6] at hown7
          simpa using hown7

end Go.Proofs.Qxb6600803a
