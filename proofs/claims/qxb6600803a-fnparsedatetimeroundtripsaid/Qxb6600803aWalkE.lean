import Derived.Test.Qxb6600803aWalkD
import Derived.Maps.AppendAt
namespace Go.Proofs.Qxb6600803a
open Go.RowKit Tm
set_option linter.unusedVariables false
set_option linter.unusedSimpArgs false

theorem info5 : (Try.prog.info? 5).map (fun i => (i.zero, i.size, i.bytes)) = some (some (Value.int IntKind.u8 0), 1, 1) := by kernel_rfl

theorem own_ge {w : World} {base : Nat} {e : TypeId} {size : Nat} {v : Value} {n : Nat} {xs : List Value} (h : w.ownsRow base e size v n xs) : ∀ g, v.ownBlock = some g → base ≤ g := by
  intro g hg
  rcases h with ⟨_, ⟨rfl, _⟩ | ⟨g', cap, cur, rfl, hb, _⟩⟩
  · simp [Value.ownBlock] at hg
  · simp [Value.ownBlock] at hg
    omega
/-- what is owned stays owned where nothing that was there has turned -/
theorem own_below {w wr : World} {base : Nat} {v : Value} {n : Nat} {xs : List Value} (h : w.ownsRow base 5 1 v n xs) (hb : Below w.heap.size w wr) : wr.ownsRow base 5 1 v n xs := by
  obtain ⟨h1, h2⟩ := h
  refine ⟨h1, ?_⟩
  rcases h2 with h2 | ⟨g, cap, cur, e, r1, r2, r3⟩
  · exact .inl h2
  · refine .inr ⟨g, cap, cur, e, r1, ?_, r3⟩
    have hlt : g < w.heap.size := by
      by_cases hlt : g < w.heap.size
      · exact hlt
      · rw [Array.getElem?_eq_none (by omega)] at r2; simp at r2
    rw [hb.block g hlt]; exact r2

theorem arr45 : Try.prog.arrayLen 45 = 9 := by kernel_rfl
theorem und45 : Try.prog.underlying 45 = some (.array (Try.prog.arrayLen 45) (Try.prog.elem 45)) := by kernel_rfl
theorem siz45 (w : World) : (sizeOf (Try.prog.elem 45)).run Try.prog w = .ok 1 w := by kernel_rfl
theorem sl45 (A k : Nat) (hk : k ≤ 9) (w : World) : (Instr.sliceAt 45 (.pointer (some ⟨A, 0, none⟩)) none (some (.int .i64 (k : Int))) none).run Try.prog w = .ok (.slice (some ⟨A, 0, none⟩) k 9) w := by
  rw [run_sliceAt_array_h w 45 ⟨A, 0, none⟩ und45 .i64 k (by omega) (by rw [arr45]; omega), siz45]
  simp [Result.andThen, slicedAt, arr45, Addr.add]

/-- the digits' row while it is filled from its end -/
def dgf (m wd : Nat) (rest : List Int) (j : Nat) : Value := if m ≤ j ∧ j < wd then .int .u8 (rest.getD (j - m) 0) else .int .u8 0
theorem dgf_step (m wd : Nat) (rest : List Int) (c : Int) (h0 : 0 < m) (h1 : m ≤ wd) (j : Nat) : (if j = m - 1 then Value.int .u8 c else dgf m wd rest j) = dgf (m - 1) wd (c :: rest) j := by
  unfold dgf
  by_cases hj : j = m - 1
  · rw [if_pos hj, if_pos (by omega), hj]; simp
  · rw [if_neg hj]
    by_cases h2 : m ≤ j ∧ j < wd
    · rw [if_pos h2, if_pos (by omega)]
      have : j - (m - 1) = (j - m) + 1 := by omega
      rw [this]; rfl
    · rw [if_neg h2, if_neg (by omega)]
theorem row9 (w : World) : (w.alloc (.cells #[.int .u8 0, .int .u8 0, .int .u8 0, .int .u8 0, .int .u8 0, .int .u8 0, .int .u8 0, .int .u8 0, .int .u8 0] 45)).rowIs w.heap.size 45 9 (fun _ => .int .u8 0) :=
  World.rowIs_alloc w _ 45 _ (fun i hi => by
    show (Array.replicate 9 (Value.int .u8 0))[i]? = _
    rw [Array.getElem?_replicate, if_pos (by simpa using hi)])
/-- the cells that an append of the row's head takes -/
theorem news_of {w : World} {A wd : Nat} {rest : List Int} (h : w.rowIs A 45 9 (dgf 0 wd rest)) (hwd : wd ≤ 9) (hl : rest.length = wd) (k : Nat) (hk : k ≤ wd) :
    ∀ j u, ((rest.take k).map (Value.int .u8))[j]? = some u → w.cell? ((⟨A, 0, none⟩ : Addr).add j) = some u := by
  intro j u hj
  rw [List.getElem?_map, List.getElem?_take] at hj
  by_cases hjk : j < k
  · rw [if_pos hjk, List.getElem?_eq_getElem (by omega)] at hj
    have hc := h.cell (i := j) (by omega)
    have e : (⟨A, 0, none⟩ : Addr).add j = ⟨A, j, none⟩ := by unfold Addr.add; split <;> simp_all
    rw [e, hc, ← hj]
    unfold dgf
    rw [if_pos (by omega), List.getD_eq_getElem?_getD, Nat.sub_zero, List.getElem?_eq_getElem (by omega)]
    rfl
  · rw [if_neg hjk] at hj; simp at hj
theorem ints_one (l : List Int) : ∀ u ∈ l.map (Value.int .u8), u.oneCell' = true := by
  intro u hu
  obtain ⟨x, _, rfl⟩ := List.mem_map.1 hu
  rfl

set_option maxRecDepth 100000 in
set_option maxHeartbeats 1000000 in
theorem put_any (base : Nat) (v : Value) (n : Nat) (xs : List Int) (y : Int) (x : Nat) (hy : y = x) (wd : Nat) (z : Int) (hz : z = wd) (w : World) (hx : x ≤ 1000000000) (hn : n ≤ 100000) (hwd : wd ≤ 9) (hbase : base ≤ w.heap.size) (hown : w.ownsRow base 5 1 v n (xs.map (Value.int .u8))) :
    Calls Try.prog 16 #[v, .int .i64 y, .int .i64 z] w fun e w' => ∃ v', e = .returned v' ∧ w'.ownsRow base 5 1 v' (n + wd) ((xs ++ dgt wd x).map (Value.int .u8)) ∧ Below base w w' := by
  subst hy
  subst hz
  obtain ⟨i0, hi, hz0, hz1, hz2⟩ := info_parts info5
  have HO := hidd hown
  clear hown
  go_enter Try.func16, Try.ntmps16
  go_wp2_with fail
  go_loopw [1, 8] (fun vv vi wr => ∃ (m y : Nat) (rest : List Int), m ≤ wd ∧ y ≤ 1000000000 ∧ vv = .int .i64 y ∧ vi = .int .i64 ((m : Int) - 1) ∧ Hid (rest.length + m = wd) ∧ Hid (dgt wd x = dgt m y ++ rest) ∧ Hid (wr.rowIs w.heap.size 45 9 (dgf m wd rest)) ∧ Hid (Below w.heap.size w wr)) (fun _ vi _ => (intOf vi + 1).toNat)
  case atStart =>
    refine ⟨wd, x, [], Nat.le_refl _, hx, rfl, rfl, by show _ = _; simp, by show _ = _; simp, ?_, (Below.refl _ _).alloc (Nat.le_refl _) _⟩
    exact (row9 w).congr (fun j hj => by unfold dgf; rw [if_neg (by omega)])
  case round =>
    obtain ⟨m, y, rest, hm, hy, rfl, rfl, hlen, hdg, hrw, hbl⟩ := hrel
    by_cases hm0 : 0 < m
    · have hf1 : wr.frozen? ⟨w.heap.size, m - 1, none⟩ = false := hrw.out.frozen _
      obtain ⟨v0, hv0⟩ : ∃ v0, wr.cell? ⟨w.heap.size, m - 1, none⟩ = some v0 := ⟨_, hrw.out.cell (i := m - 1) (by omega)⟩
      go_wp2_with fail
      go_roundw
      case rel =>
        refine ⟨m - 1, y / 10, (48 + (y : Int) % 10) :: rest, by omega, by omega, by go_num, by go_num, ?_, ?_, ?_, hbl.out.setCell (Nat.le_refl _) _⟩
        · show _ = _
          have := hlen.out
          rw [List.length_cons]; omega
        · show _ = _
          rw [hdg.out]
          obtain ⟨m', rfl⟩ : ∃ m', m = m' + 1 := ⟨m - 1, by omega⟩
          rw [dgt, Nat.add_sub_cancel, List.append_assoc]
          rfl
        · exact (hrw.out.set (m - 1) _).congr (fun j hj => dgf_step m wd rest _ hm0 hm j)
      case measure => simp [intOf]; omega
    · have hmz : m = 0 := by omega
      have hl : rest.length = wd := by have := hlen.out; omega
      have hr : dgt wd x = rest := by have := hdg.out; rw [hmz] at this; simpa [dgt] using this
      have hrow : wr.rowIs w.heap.size 45 9 (dgf 0 wd rest) := by have := hrw.out; rw [hmz] at this; exact this
      have hnews := news_of hrow hwd hl wd (Nat.le_refl _)
      rw [List.take_of_length_le (by omega)] at hnews
      have hown := own_below HO.out hbl.out
      have hsz : w.heap.size ≤ wr.heap.size := hbl.out.size
      have hsl := sl45 w.heap.size wd hwd
      have HL := hidd hl
      have HR := hidd hr
      have HN := hidd hnews
      clear hl hr hnews hmz hlen hdg hrw hrow
      go_wp2_with (at_builtin; refine wpList_append_own _ rfl (.tmp 23) (.tmp 25) 29 rfl base 5 i0 (.int .u8 0) 1 1 Try.underlying29 hi hz0 hz1 hz2 rfl (by decide) v n (xs.map (Value.int .u8)) rfl hown ⟨w.heap.size, 0, none⟩ wd 9 (rest.map (Value.int .u8)) rfl (by rw [List.length_map, HL.out, Nat.mul_one]) HN.out (ints_one rest) (by unfold maxLen; omega) (by omega) (by omega) ?_; intro v' w1 hown1 hgrow1 _)
      go_ret
      exact ⟨v', rfl, by rw [HR.out, List.map_append]; exact hown1, (hbl.out.mono hbase).grown hgrow1 (by omega) (own_ge hown)⟩

end Go.Proofs.Qxb6600803a
