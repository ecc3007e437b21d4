import Derived.Test.Qxb6601282aWalkD
import Derived.Maps.AppendAt
import Derived.OwnWalk
namespace Go.Proofs.Qxb6601282a
open Go.RowKit Sk
set_option linter.unusedVariables false
set_option linter.unusedSimpArgs false

theorem qb_snoc (l : List Int) (c : Int) : qb (l ++ [c]) = qb l ++ (if c = 34 ∨ c = 92 then [92, c] else [c]) := by
  induction l with
  | nil => simp [qb]
  | cons x l ih => rw [List.cons_append, qb, ih, qb, List.append_assoc]
/-- the first k bytes -/
def pre (t : Nat → Int) (k : Nat) : List Int := (List.range k).map t
theorem pre_succ (t : Nat → Int) (k : Nat) : pre t (k + 1) = pre t k ++ [t k] := by unfold pre; rw [List.range_succ, List.map_append]; rfl
theorem pre_length (t : Nat → Int) (k : Nat) : (pre t k).length = k := by simp [pre]
theorem ints_one (l : List Int) : ∀ u ∈ l.map (Value.int .u8), u.oneCell' = true := by
  intro u hu
  obtain ⟨x, _, rfl⟩ := List.mem_map.1 hu
  rfl
theorem qb_le : ∀ l, (qb l).length ≤ 2 * l.length := by
  intro l
  induction l with
  | nil => simp [qb]
  | cons c l ih =>
    rw [qb, List.length_append, List.length_cons]
    split <;> simp <;> omega

set_option maxRecDepth 100000 in
set_option maxHeartbeats 1600000 in
theorem quote_any (a : Option Addr) (n cap : Nat) (t : Nat → Int) (w : World) (hn : n ≤ 262144) (hs : Src w a n t) :
    Calls Try.prog 13 #[.slice a n cap] w fun e w' => ∃ m, m ≤ 2 * n + 2 ∧ 2 ≤ m ∧ e = .returned (.slice (some ⟨w.heap.size, 0, none⟩) m (2 * n + 2)) ∧ w'.ownsRow w.heap.size 5 1 (.slice (some ⟨w.heap.size, 0, none⟩) m (2 * n + 2)) m ((34 :: (qb (pre t n) ++ [34])).map (Value.int .u8)) ∧ Below w.heap.size w w' := by
  obtain ⟨i0, hi, hz0, hz1, hz2⟩ := info_parts info5
  have HS := hidd hs
  clear hs
  go_enter Try.func13, Try.ntmps13
  go_wp2_with (first
    | (at_make; refine wpList_make_own _ rfl _ _ 22 rfl w.heap.size 5 i0 (.int .u8 0) 1 Try.underlying22 hi hz0 hz1 _ _ _ (2 * n + 2) rfl rfl (by omega) (by rw [hz2]; omega) (by unfold maxLen; omega) (Nat.le_refl _) ?_; intro w0 hown0 hgrow0)
    | (at_builtin; refine wpList_append_fits _ rfl (.tmp 11) (.tmp 12) 22 rfl w.heap.size 5 i0 1 Try.underlying22 hi hz1 w.heap.size 0 (2 * n + 2) _ rfl (hown0.alloc _) ⟨w0.heap.size, 0, none⟩ 1 1 [.int .u8 34] rfl rfl (cell_one_new _ _ _) (ints_one [34]) (by omega) ?_; intro w1 hown1 hgrow1; simp only [Nat.zero_add, List.nil_append] at hown1))
  have hB0 : Below w.heap.size w w0 := (Below.refl _ _).grown hgrow0 (Nat.le_refl _) (fun k h => by cases h)
  have hB1 : Below w.heap.size w w1 := (hB0.alloc hB0.size _).grown hgrow1 (by have := hB0.size; simp; omega) (fun k h => by cases h; exact Nat.le_refl _)
  have HB := hidd hB1
  have HOW := hidd hown1
  clear hown0 hgrow0 hB0 hown1 hgrow1 hB1
  go_loopw [3, 4] (fun vb vi wr => ∃ (k m : Nat), k ≤ n ∧ m ≤ 2 * k + 1 ∧ vi = .int .i64 k ∧ vb = .slice (some ⟨w.heap.size, 0, none⟩) m (2 * n + 2) ∧ Hid (wr.ownsRow w.heap.size 5 1 (.slice (some ⟨w.heap.size, 0, none⟩) m (2 * n + 2)) m ((34 :: qb (pre t k)).map (Value.int .u8))) ∧ Hid (Below w.heap.size w wr)) (fun _ vi _ => n - (intOf vi).toNat)
  case atStart => exact ⟨0, 1, by omega, by omega, rfl, rfl, HOW, HB⟩
  case round =>
    obtain ⟨k, m, hk, hm, rfl, rfl, how, hbl⟩ := hrel
    clear HOW HB
    have hsz : w.heap.size ≤ wr.heap.size := hbl.out.size
    by_cases hlt : k < n
    · obtain ⟨b, off, rfl, hb, ht⟩ := HS.out (by omega)
      have hcx : wr.cell? ⟨b, off + k, none⟩ = some (.int .u8 (t k)) := (hbl.out.cell (p := ⟨b, off + k, none⟩) hb).trans (ht k hlt)
      clear ht hb
      by_cases hc : t k = 34 ∨ t k = 92
      · have HQ : Hid (qb (pre t (k + 1)) = qb (pre t k) ++ [92, t k]) := by
          show _ = _
          rw [pre_succ, qb_snoc, if_pos hc]
        rcases hc with hc | hc
        · rw [hc] at hcx HQ
          clear hc
          go_wp2_with (first
            | (at_builtin; refine wpList_append_fits _ rfl (.tmp 30) (.tmp 31) 22 rfl w.heap.size 5 i0 1 Try.underlying22 hi hz1 w.heap.size m (2 * n + 2) _ rfl (how.out.alloc _) ⟨wr.heap.size, 0, none⟩ 1 1 [.int .u8 92] rfl rfl (cell_one_new _ _ _) (ints_one [92]) (by omega) ?_; intro w2 hown2 hgrow2)
            | (at_builtin; refine wpList_append_fits _ rfl (.tmp 33) (.tmp 35) 22 rfl w.heap.size 5 i0 1 Try.underlying22 hi hz1 w.heap.size (m + 1) (2 * n + 2) _ rfl (hown2.alloc _) ⟨w2.heap.size, 0, none⟩ 1 1 [.int .u8 34] rfl rfl (cell_one_new _ _ _) (ints_one [34]) (by omega) ?_; intro w3 hown3 hgrow3))
          go_roundw
          case rel =>
            have hB2 : Below w.heap.size w w2 := (hbl.out.alloc hbl.out.size _).grown hgrow2 (by simp; omega) (fun k h => by cases h; exact Nat.le_refl _)
            have hB3 : Below w.heap.size w w3 := (hB2.alloc hB2.size _).grown hgrow3 (by have := hB2.size; simp; omega) (fun k h => by cases h; exact Nat.le_refl _)
            refine ⟨k + 1, m + 1 + 1, by omega, by omega, by go_num, rfl, ?_, hB3⟩
            show World.ownsRow _ _ _ _ _ _ _
            rw [HQ.out]
            simpa using hown3
          case measure => simp [intOf]; omega
        · rw [hc] at hcx HQ
          clear hc
          go_wp2_with (first
            | (at_builtin; refine wpList_append_fits _ rfl (.tmp 30) (.tmp 31) 22 rfl w.heap.size 5 i0 1 Try.underlying22 hi hz1 w.heap.size m (2 * n + 2) _ rfl (how.out.alloc _) ⟨wr.heap.size, 0, none⟩ 1 1 [.int .u8 92] rfl rfl (cell_one_new _ _ _) (ints_one [92]) (by omega) ?_; intro w2 hown2 hgrow2)
            | (at_builtin; refine wpList_append_fits _ rfl (.tmp 33) (.tmp 35) 22 rfl w.heap.size 5 i0 1 Try.underlying22 hi hz1 w.heap.size (m + 1) (2 * n + 2) _ rfl (hown2.alloc _) ⟨w2.heap.size, 0, none⟩ 1 1 [.int .u8 92] rfl rfl (cell_one_new _ _ _) (ints_one [92]) (by omega) ?_; intro w3 hown3 hgrow3))
          go_roundw
          case rel =>
            have hB2 : Below w.heap.size w w2 := (hbl.out.alloc hbl.out.size _).grown hgrow2 (by simp; omega) (fun k h => by cases h; exact Nat.le_refl _)
            have hB3 : Below w.heap.size w w3 := (hB2.alloc hB2.size _).grown hgrow3 (by have := hB2.size; simp; omega) (fun k h => by cases h; exact Nat.le_refl _)
            refine ⟨k + 1, m + 1 + 1, by omega, by omega, by go_num, rfl, ?_, hB3⟩
            show World.ownsRow _ _ _ _ _ _ _
            rw [HQ.out]
            simpa using hown3
          case measure => simp [intOf]; omega
      · have HQ : Hid (qb (pre t (k + 1)) = qb (pre t k) ++ [t k]) := by
          show _ = _
          rw [pre_succ, qb_snoc, if_neg hc]
        have e1 : (t k == 34) = false := by simp; omega
        have e2 : (t k == 92) = false := by simp; omega
        clear hc
        go_wp2_with (at_builtin; refine wpList_append_fits _ rfl (.tmp 33) (.tmp 35) 22 rfl w.heap.size 5 i0 1 Try.underlying22 hi hz1 w.heap.size m (2 * n + 2) _ rfl (how.out.alloc _) ⟨wr.heap.size, 0, none⟩ 1 1 [.int .u8 (t k)] rfl rfl (cell_one_new _ _ _) (ints_one [t k]) (by omega) ?_; intro w3 hown3 hgrow3)
        go_roundw
        case rel =>
          have hB3 : Below w.heap.size w w3 := (hbl.out.alloc hbl.out.size _).grown hgrow3 (by simp; omega) (fun k h => by cases h; exact Nat.le_refl _)
          refine ⟨k + 1, m + 1, by omega, by omega, by go_num, rfl, ?_, hB3⟩
          show World.ownsRow _ _ _ _ _ _ _
          rw [HQ.out]
          simpa using hown3
        case measure => simp [intOf]; omega
    · have hkn : k = n := by omega
      subst hkn
      go_wp2_with (at_builtin; refine wpList_append_fits _ rfl (.tmp 37) (.tmp 38) 22 rfl w.heap.size 5 i0 1 Try.underlying22 hi hz1 w.heap.size m (2 * k + 2) _ rfl (how.out.alloc _) ⟨wr.heap.size, 0, none⟩ 1 1 [.int .u8 34] rfl rfl (cell_one_new _ _ _) (ints_one [34]) (by omega) ?_; intro w3 hown3 hgrow3)
      go_ret
      refine ⟨m + 1, by omega, ?_, rfl, by simpa using hown3, (hbl.out.alloc hbl.out.size _).grown hgrow3 (by simp; omega) (fun k h => by cases h; exact Nat.le_refl _)⟩
      have := hown3.1
      simp at this
      omega

end Go.Proofs.Qxb6601282a
