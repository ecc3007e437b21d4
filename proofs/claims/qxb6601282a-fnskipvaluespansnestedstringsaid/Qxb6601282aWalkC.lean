import Derived.Test.Qxb6601282aWalkB
import Derived.Laws.CopyOwn
import Derived.Deep.OwnRows
import Derived.Lib.SliceRun
namespace Go.Proofs.Qxb6601282a
open Go.RowKit Sk
set_option linter.unusedVariables false
set_option linter.unusedSimpArgs false

theorem info5 : (Try.prog.info? 5).map (fun i => (i.zero, i.size, i.bytes)) = some (some (Value.int IntKind.u8 0), 1, 1) := by kernel_rfl
theorem size5 : (Try.prog.info? 5).map (·.size) = some 1 := by kernel_rfl

/-- where a slice of n bytes lies: nothing is said of an empty one -/
def Src (w : World) (a : Option Addr) (n : Nat) (t : Nat → Int) : Prop := 0 < n → ∃ b off, a = some ⟨b, off, none⟩ ∧ b < w.heap.size ∧ Txt w b off n t
theorem Src.below {w w' : World} {a : Option Addr} {n : Nat} {t : Nat → Int} (h : Src w a n t) (hb : Below w.heap.size w w') : Src w' a n t := by
  intro h0
  obtain ⟨b, off, e, h1, h2⟩ := h h0
  exact ⟨b, off, e, Nat.lt_of_lt_of_le h1 hb.size, fun i hi => (hb.cell (p := ⟨b, off + i, none⟩) h1).trans (h2 i hi)⟩

theorem txt_add {w : World} {b off n : Nat} {t : Nat → Int} (h : Txt w b off n t) : ∀ j u, ((List.range n).map fun i => Value.int .u8 (t i))[j]? = some u → w.cell? ((⟨b, off, none⟩ : Addr).add j) = some u := by
  intro j u hj
  by_cases hjn : j < n
  · have e : (⟨b, off, none⟩ : Addr).add j = ⟨b, off + j, none⟩ := by unfold Addr.add; split <;> simp_all
    rw [e, h j hjn]
    simp [hjn] at hj
    rw [hj]
  · simp [hjn] at hj

set_option maxRecDepth 100000 in
set_option maxHeartbeats 800000 in
theorem clone_any (a : Option Addr) (n cap : Nat) (t : Nat → Int) (w : World) (hn : n ≤ 1048576) (hnil : a = none → n = 0 ∧ cap = 0) (hs : Src w a n t) :
    Calls Try.prog 9 #[.slice a n cap] w fun e w' => ∃ a', e = .returned (.slice a' n n) ∧ (a' = none → n = 0) ∧ Src w' a' n t ∧ Below w.heap.size w w' := by
  cases a with
  | none =>
    obtain ⟨rfl, rfl⟩ := hnil rfl
    have hnl : ∀ wx : World, (binOp .eql 22 (.slice none 0 0) (.slice none 0 0)).run Try.prog wx = .ok (.bool true) wx := fun wx => Lib.run_eql_slice_nil wx 22 5 none 0 0 0 0 Try.underlying22
    go_enter Try.func9, Try.ntmps9
    go_wp2
    go_ret
    exact ⟨_, rfl, fun h => by omega, Below.refl _ _⟩
  | some ad =>
    have hnl : ∀ wx : World, (binOp .eql 22 (.slice (some ad) n cap) (.slice none 0 0)).run Try.prog wx = .ok (.bool false) wx := fun wx => Lib.run_eql_slice_nil wx 22 5 (some ad) n cap 0 0 Try.underlying22
    have hmk := run_make_row' (P := Try.prog) 22 5 (.int .u8 0) 1 Try.underlying22 info5 rfl .i64 .i64 n (by omega) (by omega)
    have HS := hidd hs
    obtain ⟨cs, HC⟩ : ∃ cs, Hid (cs = (List.range n).map fun i => Value.int .u8 (t i)) := ⟨_, rfl⟩
    have hl : cs.length = n := by rw [HC.out]; simp
    obtain ⟨w2, hcp, HG, HB⟩ : ∃ w2, (Builtin.copy_ #[22, 22] 3 #[.slice (some ⟨w.heap.size, 0, none⟩) n n, .slice (some ad) n cap]).run Try.prog (w.alloc (.cells (madeCells #[.int .u8 0] n) 5)) = .ok (.int .i64 n) w2 ∧ Hid (Src w2 (some ⟨w.heap.size, 0, none⟩) n t) ∧ Hid (Below w.heap.size w w2) := by
      have hb0 : Below w.heap.size w (w.alloc (.cells (madeCells #[.int .u8 0] n) 5)) := (Below.refl _ _).alloc (Nat.le_refl _) _
      by_cases h0 : n = 0
      · subst h0
        exact ⟨_, run_copy_none (P := Try.prog) _ 22 22 3 5 _ _ 0 0 0 cap Try.underlying22 size5 rfl, fun h => by omega, hb0⟩
      · obtain ⟨b, off, e, h1, h2⟩ := HS.out (by omega)
        injection e with e
        subst e
        have hrun := run_copy_row (P := Try.prog) (w.alloc (.cells (madeCells #[.int .u8 0] n) 5)) 22 22 3 5 w.heap.size 0 n n ⟨b, off, none⟩ n cap (madeCells #[.int .u8 0] n) 5 cs Try.underlying22 size5 (heap_alloc_new w _) (by rw [hl]; exact (Nat.min_self n).symm) (by
          rw [HC.out]
          intro j u hj
          have h3 := txt_add h2 j u hj
          have hlt : (((⟨b, off, none⟩ : Addr).add j)).block < w.heap.size := by unfold Addr.add; split <;> exact h1
          exact (hb0.cell hlt).trans h3) (by rw [hl, size_madeCells]; omega) (by rw [HC.out]; intro u hu; obtain ⟨x, _, rfl⟩ := List.mem_map.1 hu; rfl)
        have hsp : (madeCells #[.int .u8 0] n).toList.take 0 ++ cs ++ (madeCells #[.int .u8 0] n).toList.drop (0 + cs.length) = cs := by
          rw [List.take_zero, List.nil_append, List.drop_of_length_le (by simp [size_madeCells, hl]), List.append_nil]
        rw [hsp, hl] at hrun
        refine ⟨_, hrun, fun _ => ⟨_, _, rfl, ?_, fun i hi => ?_⟩, below_setRow hb0 (Nat.le_refl _) _⟩
        · simp [World.setRow]
        · rw [Nat.zero_add, cell_of_row _ _ i _ 5 (0, 0) (setRow_heap (w.alloc (.cells (madeCells #[.int .u8 0] n) 5)) w.heap.size _ cs.toArray 5 _ (heap_alloc_new w _)), HC.out]
          simp [hi]
    clear hs hnil HS HC hl
    go_enter Try.func9, Try.ntmps9
    go_wp2_with fail
    go_ret
    exact ⟨_, rfl, fun h => by simp at h, HG.out, HB.out⟩

section
variable {t : Nat → Int} {n j d : Nat}
theorem gl_in_end {m : Nat} : gl (S t n n) d (m + 1) = none := by rw [S_nil (by omega), gl]; simp
theorem gl_in_back (h : j < n) (e : t j = 92) : gl (S t n j) d 1 = gl (S t n (j + 1)) d 2 := by rw [S_cons h, gl, if_pos e]
theorem gl_in_quote (h : j < n) (e : t j = 34) : gl (S t n j) d 1 = if d = 0 then some (S t n (j + 1)) else gl (S t n (j + 1)) d 0 := by rw [S_cons h, gl, if_neg (by omega), if_pos e]
theorem gl_in_plain (h : j < n) (e1 : ¬ t j = 92) (e2 : ¬ t j = 34) : gl (S t n j) d 1 = gl (S t n (j + 1)) d 1 := by rw [S_cons h, gl, if_neg e1, if_neg e2]
theorem gl_in_esc (h : j < n) : gl (S t n j) d 2 = gl (S t n (j + 1)) d 1 := by rw [S_cons h, show (2 : Nat) = 0 + 2 from rfl, gl]
end

set_option maxRecDepth 100000 in
set_option maxHeartbeats 1600000 in
theorem se_any (b off n cap : Nat) (t : Nat → Int) (i : Nat) (w : World) (hn : n ≤ 4000000) (hcap : n ≤ cap) (hi : i < n) (hc : Txt w b off n t) :
    Calls Try.prog 16 #[.slice (some ⟨b, off, none⟩) n cap, .int .i64 i] w fun e w' => e = .returned (.int .i64 (ans n i (gl (S t n i) 0 0) : Nat)) ∧ w' = w := by
  obtain ⟨A, HA⟩ : ∃ A, Hid (A = ans n i (gl (S t n i) 0 0)) := ⟨_, rfl⟩
  rw [← HA.out]
  have hni : ¬ n ≤ i := by omega
  go_enter Try.func16, Try.ntmps16
  go_wp2_with fail
  go_loop [5, 6, 7] (fun vd vm vj => ∃ d m j : Nat, vd = .int .i64 d ∧ vm = .int .i64 m ∧ vj = .int .i64 j ∧ i ≤ j ∧ j ≤ n ∧ d ≤ j ∧ m ≤ 2 ∧ Hid (A = ans n i (gl (S t n j) d m))) (fun _ _ vj => n - (intOf vj).toNat)
  case atStart => exact ⟨0, 0, i, rfl, rfl, rfl, by omega, by omega, by omega, by omega, HA⟩
  case round =>
    obtain ⟨d, m, j, rfl, rfl, rfl, hj1, hj2, hd, hm, H⟩ := hrel
    clear HA
    obtain rfl | rfl | rfl : m = 0 ∨ m = 1 ∨ m = 2 := by omega
    · by_cases hjn : j < n
      · have hcj := hc j hjn
        by_cases h34 : t j = 34
        · have HY : Hid (A = ans n i (gl (S t n (j + 1)) d 1)) := by
            show _ = _
            rw [H.out, gl_at_quote hjn h34]
          rw [h34] at hcj
          clear h34 H
          go_wp2_with fail
          go_round
          case rel => exact ⟨d, 1, j + 1, rfl, rfl, by go_num, by omega, by omega, by omega, by omega, HY⟩
          case measure => simp [intOf]; omega
        · by_cases ho : t j = 123 ∨ t j = 91
          · have HY : Hid (A = ans n i (gl (S t n (j + 1)) (d + 1) 0)) := by
              show _ = _
              rw [H.out, gl_at_open hjn ho]
            clear h34 H
            rcases ho with ho | ho
            all_goals
              rw [ho] at hcj
              clear ho
              go_wp2_with fail
              go_round
              case rel => exact ⟨d + 1, 0, j + 1, by go_num, rfl, by go_num, by omega, by omega, by omega, by omega, HY⟩
              case measure => simp [intOf]; omega
          · by_cases hcl : t j = 125 ∨ t j = 93
            · have HG := hidd (gl_at_close (d := d) hjn hcl)
              clear h34 ho
              by_cases hd0 : d = 0
              · subst hd0
                have HY : Hid (A = j) := by
                  show _ = _
                  rw [H.out, HG.out, if_pos rfl, ans_S (by omega)]
                clear HG H
                rcases hcl with hcl | hcl
                all_goals
                  rw [hcl] at hcj
                  clear hcl
                  go_wp2_with fail
                  go_ret
                  exact ⟨ret_int (by have := HY.out; omega), rfl⟩
              · by_cases hd1 : d = 1
                · subst hd1
                  have HY : Hid (A = j + 1) := by
                    show _ = _
                    rw [H.out, HG.out, if_neg hd0, if_pos rfl, ans_S (by omega)]
                  clear HG H
                  rcases hcl with hcl | hcl
                  all_goals
                    rw [hcl] at hcj
                    clear hcl
                    go_wp2_with fail
                    go_ret
                    exact ⟨ret_int (by have := HY.out; omega), rfl⟩
                · have HY : Hid (A = ans n i (gl (S t n (j + 1)) (d - 1) 0)) := by
                    show _ = _
                    rw [H.out, HG.out, if_neg hd0, if_neg hd1]
                  have ed : ((d : Int) == 0) = false := by simp; omega
                  have ed2 : ((d : Int) == 1) = false := by simp; omega
                  clear HG H
                  rcases hcl with hcl | hcl
                  all_goals
                    rw [hcl] at hcj
                    clear hcl
                    go_wp2_with fail
                    go_round
                    case rel => exact ⟨d - 1, 0, j + 1, by go_num, rfl, by go_num, by omega, by omega, by omega, by omega, HY⟩
                    case measure => simp [intOf]; omega
            · by_cases hsp : t j = 44 ∨ t j = 32 ∨ t j = 9 ∨ t j = 10 ∨ t j = 13
              · have HG := hidd (gl_at_sep (d := d) hjn hsp)
                clear h34 ho hcl
                by_cases hd0 : d = 0
                · subst hd0
                  have HY : Hid (A = j) := by
                    show _ = _
                    rw [H.out, HG.out, if_pos rfl, ans_S (by omega)]
                  clear HG H
                  rcases hsp with hcl | hcl | hcl | hcl | hcl
                  all_goals
                    rw [hcl] at hcj
                    clear hcl
                    go_wp2_with fail
                    refine (isSep_any _ _).mono ?_
                    rintro e' w2 ⟨rfl, hw2⟩
                    have hw2' := hw2.symm
                    subst hw2'
                    clear hw2
                    have hx : ∀ z : Bool, z = z := fun _ => rfl
                    simp only [isSep]
                    go_wp2_with fail
                    go_ret
                    exact ⟨ret_int (by have := HY.out; omega), rfl⟩
                · have HY : Hid (A = ans n i (gl (S t n (j + 1)) d 0)) := by
                    show _ = _
                    rw [H.out, HG.out, if_neg hd0]
                  have ed : ((d : Int) == 0) = false := by simp; omega
                  clear HG H
                  rcases hsp with hcl | hcl | hcl | hcl | hcl
                  all_goals
                    rw [hcl] at hcj
                    clear hcl
                    go_wp2_with fail
                    refine (isSep_any _ _).mono ?_
                    rintro e' w2 ⟨rfl, hw2⟩
                    have hw2' := hw2.symm
                    subst hw2'
                    clear hw2
                    simp only [isSep]
                    go_wp2_with fail
                    go_round
                    case rel => exact ⟨d, 0, j + 1, rfl, rfl, by go_num, by omega, by omega, by omega, by omega, HY⟩
                    case measure => simp [intOf]; omega
              · have HY : Hid (A = ans n i (gl (S t n (j + 1)) d 0)) := by
                  show _ = _
                  rw [H.out, gl_at_other hjn h34 ho hcl hsp]
                have e1 : (t j == 34) = false := by simp; omega
                have e2 : (t j == 123) = false := by simp; omega
                have e3 : (t j == 91) = false := by simp; omega
                have e4 : (t j == 125) = false := by simp; omega
                have e5 : (t j == 93) = false := by simp; omega
                have e6 : isSep (t j) = false := by simp [isSep]; omega
                clear h34 ho hcl hsp H
                go_wp2_with fail
                refine (isSep_any _ _).mono ?_
                rintro e' w2 ⟨rfl, hw2⟩
                have hw2' := hw2.symm
                subst hw2'
                clear hw2
                rw [e6]
                go_wp2_with fail
                go_round
                case rel => exact ⟨d, 0, j + 1, rfl, rfl, by go_num, by omega, by omega, by omega, by omega, HY⟩
                case measure => simp [intOf]; omega
      · have hje : j = n := by omega
        subst hje
        have HG := hidd (gl_at_end (t := t) (n := j) (d := d))
        by_cases hd0 : d = 0
        · subst hd0
          have HY : Hid (A = j) := by
            show _ = _
            rw [H.out, HG.out, if_pos rfl]; simp [ans]
          clear HG H
          go_wp2_with fail
          go_ret
          exact ⟨ret_int (by have := HY.out; omega), rfl⟩
        · have HY : Hid (A = i) := by
            show _ = _
            rw [H.out, HG.out, if_neg hd0]; rfl
          have ed : ((d : Int) == 0) = false := by simp; omega
          clear HG H
          go_wp2_with fail
          go_ret
          exact ⟨ret_int (by have := HY.out; omega), rfl⟩
    · by_cases hjn : j < n
      · have hcj := hc j hjn
        by_cases h92 : t j = 92
        · have HY : Hid (A = ans n i (gl (S t n (j + 1)) d 2)) := by
            show _ = _
            rw [H.out, gl_in_back hjn h92]
          rw [h92] at hcj
          clear h92 H
          go_wp2_with fail
          go_round
          case rel => exact ⟨d, 2, j + 1, rfl, rfl, by go_num, by omega, by omega, by omega, by omega, HY⟩
          case measure => simp [intOf]; omega
        · by_cases h34 : t j = 34
          · have HG := hidd (gl_in_quote (d := d) hjn h34)
            rw [h34] at hcj
            clear h34 h92
            by_cases hd0 : d = 0
            · subst hd0
              have HY : Hid (A = j + 1) := by
                show _ = _
                rw [H.out, HG.out, if_pos rfl, ans_S (by omega)]
              clear HG H
              go_wp2_with fail
              go_ret
              exact ⟨ret_int (by have := HY.out; omega), rfl⟩
            · have HY : Hid (A = ans n i (gl (S t n (j + 1)) d 0)) := by
                show _ = _
                rw [H.out, HG.out, if_neg hd0]
              have ed : ((d : Int) == 0) = false := by simp; omega
              clear HG H
              go_wp2_with fail
              go_round
              case rel => exact ⟨d, 0, j + 1, rfl, rfl, by go_num, by omega, by omega, by omega, by omega, HY⟩
              case measure => simp [intOf]; omega
          · have HY : Hid (A = ans n i (gl (S t n (j + 1)) d 1)) := by
              show _ = _
              rw [H.out, gl_in_plain hjn h92 h34]
            have e1 : (t j == 34) = false := by simp; omega
            have e2 : (t j == 92) = false := by simp; omega
            clear h92 h34 H
            go_wp2_with fail
            go_round
            case rel => exact ⟨d, 1, j + 1, rfl, rfl, by go_num, by omega, by omega, by omega, by omega, HY⟩
            case measure => simp [intOf]; omega
      · have hje : j = n := by omega
        subst hje
        have HY : Hid (A = i) := by
          show _ = _
          rw [H.out, gl_in_end]; rfl
        clear H
        go_wp2_with fail
        go_ret
        exact ⟨ret_int (by have := HY.out; omega), rfl⟩
    · by_cases hjn : j < n
      · have hcj := hc j hjn
        have HY : Hid (A = ans n i (gl (S t n (j + 1)) d 1)) := by
          show _ = _
          rw [H.out, gl_in_esc hjn]
        clear H
        go_wp2_with fail
        go_round
        case rel => exact ⟨d, 1, j + 1, rfl, rfl, by go_num, by omega, by omega, by omega, by omega, HY⟩
        case measure => simp [intOf]; omega
      · have hje : j = n := by omega
        subst hje
        have HY : Hid (A = i) := by
          show _ = _
          rw [H.out, show (2 : Nat) = 1 + 1 from rfl, gl_in_end]; rfl
        clear H
        go_wp2_with fail
        go_ret
        exact ⟨ret_int (by have := HY.out; omega), rfl⟩

set_option maxRecDepth 100000 in
theorem se_out (a : Option Addr) (n cap : Nat) (i : Int) (w : World) (hn : n ≤ 4000000) (hi : (n : Int) ≤ i) :
    Calls Try.prog 16 #[.slice a n cap, .int .i64 i] w fun e w' => e = .returned (.int .i64 i) ∧ w' = w := by
  go_enter Try.func16, Try.ntmps16
  go_wp2_with fail
  go_ret
  exact ⟨rfl, rfl⟩

set_option maxRecDepth 100000 in
theorem zb14 (a : Option Addr) (n cap : Nat) (x : Int) (w : World) (hn : n ≤ 9223372036854775807) :
    Calls Try.prog 14 #[.slice a n cap, .int .i64 x] w fun e w' => e = .returned (.bool (decide (n ≤ 1048576))) ∧ w' = w := by
  by_cases h : n ≤ 1048576
  all_goals
    go_enter Try.func14, Try.ntmps14
    go_wp2
    go_ret
    exact ⟨ret_bool (by simp; omega), rfl⟩
set_option maxRecDepth 100000 in
theorem zb18 (a : Option Addr) (n cap : Nat) (x : Int) (w : World) (hn : n ≤ 9223372036854775807) :
    Calls Try.prog 18 #[.slice a n cap, .int .i64 x] w fun e w' => e = .returned (.bool (decide (n ≤ 1048576))) ∧ w' = w := by
  by_cases h : n ≤ 1048576
  all_goals
    go_enter Try.func18, Try.ntmps18
    go_wp2
    go_ret
    exact ⟨ret_bool (by simp; omega), rfl⟩

end Go.Proofs.Qxb6601282a
