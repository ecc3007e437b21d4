import Derived.Test.Qxb6600803aWalkI
namespace Go.Proofs.Qxb6600803a
open Go.RowKit Tm
set_option linter.unusedVariables false
set_option linter.unusedSimpArgs false

/-- 'string(b)' of what is owned -/
theorem conv_own {w : World} {base : Nat} {v : Value} {N : Nat} {L : List Int} (hN : 0 < N) (h : w.ownsRow base 5 1 v N (L.map (Value.int .u8))) :
    ∃ g cap, v = .slice (some ⟨g, 0, none⟩) N cap ∧ (convert 29 9 (.slice (some ⟨g, 0, none⟩) N cap)).run Try.prog w = .ok (.string (strOfNums L)) w := by
  have hl : L.length = N := by have := h.1; simpa using this
  have h' := h
  rcases h with ⟨_, ⟨rfl, h0⟩ | ⟨g, cap, cur, rfl, hb, _⟩⟩
  · omega
  · refine ⟨g, cap, rfl, run_convert_bytes_arg w 29 5 Try.underlying29 Try.underlying5 g 0 N cap L hl (fun i hi => ?_) 9 Try.underlying9⟩
    have := h'.cellAt i (by omega)
    rw [Nat.zero_add, this]
    simp [List.getD_eq_getElem?_getD, show i < L.length by omega]

set_option maxRecDepth 100000 in
set_option maxHeartbeats 1000000 in
theorem law4 (h m s n : Nat) (w : World) (hh : h ≤ 23) (hm : m ≤ 59) (hs : s ≤ 60) (hn : n ≤ 999999999) :
    Calls Try.prog 4 #[.int .i64 h, .int .i64 m, .int .i64 s, .int .i64 n, .int .i64 4] w fun e w' => e = .returned (.bool true) ∧ Below w.heap.size w w' := by
  go_enter Try.func4, Try.ntmps4
  go_wp2_with fail
  refine (clk4 w.heap.size _ 0 [] h m s n _ (by omega) (by omega) (by omega) (by omega) (by omega) (Nat.le_refl _) (World.ownsRow_nil _ _ _ _)).mono ?_
  rintro e w1 ⟨v1, rfl, hown0, hb1⟩
  have hown : w1.ownsRow w.heap.size 5 1 v1 (0 + 2) ((dgt 2 h).map (Value.int .u8)) := hown0
  obtain ⟨g, cap, rfl, hconv⟩ := conv_own (by omega) hown
  clear hown hown0
  go_wp2_with fail
  refine (zpt_any _ 4 h 0 0 _ (fun w => T4 h w hh)).mono ?_
  rintro e w2 ⟨rfl, hb2⟩
  have HB := hidd (hb1.trans (hb2.mono hb1.size))
  clear hb1 hb2 hconv
  unfold Zv
  go_wp2_with fail
  go_ret
  exact ⟨rfl, (HB.out.alloc HB.out.size _).alloc (by have := HB.out.size; simp; omega) _⟩

set_option maxRecDepth 100000 in
set_option maxHeartbeats 1000000 in
theorem law5 (h m s n : Nat) (w : World) (hh : h ≤ 23) (hm : m ≤ 59) (hs : s ≤ 60) (hn : n ≤ 999999999) :
    Calls Try.prog 4 #[.int .i64 h, .int .i64 m, .int .i64 s, .int .i64 n, .int .i64 5] w fun e w' => e = .returned (.bool true) ∧ Below w.heap.size w w' := by
  go_enter Try.func4, Try.ntmps4
  go_wp2_with fail
  refine (clk5 w.heap.size _ 0 [] h m s n _ (by omega) (by omega) (by omega) (by omega) (by omega) (Nat.le_refl _) (World.ownsRow_nil _ _ _ _)).mono ?_
  rintro e w1 ⟨v1, rfl, hown0, hb1⟩
  have hown : w1.ownsRow w.heap.size 5 1 v1 (0 + 2 + 1 + 2) ((C5 h m).map (Value.int .u8)) := hown0
  obtain ⟨g, cap, rfl, hconv⟩ := conv_own (by omega) hown
  clear hown hown0
  go_wp2_with fail
  refine (zpt_any _ 5 h m 0 _ (fun w => T5 h m w hh hm)).mono ?_
  rintro e w2 ⟨rfl, hb2⟩
  have HB := hidd (hb1.trans (hb2.mono hb1.size))
  clear hb1 hb2 hconv
  unfold Zv
  go_wp2_with fail
  go_ret
  exact ⟨rfl, (HB.out.alloc HB.out.size _).alloc (by have := HB.out.size; simp; omega) _⟩

end Go.Proofs.Qxb6600803a
