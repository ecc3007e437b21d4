import Derived.Test.Qxb6600803aWalkJ
namespace Go.Proofs.Qxb6600803a
open Go.RowKit Tm
set_option linter.unusedVariables false
set_option linter.unusedSimpArgs false

set_option maxRecDepth 100000 in
set_option maxHeartbeats 1000000 in
theorem law6 (h m s n : Nat) (w : World) (hh : h ≤ 23) (hm : m ≤ 59) (hs : s ≤ 60) (hn : n ≤ 999999999) (hnz : n = 0) :
    Calls Try.prog 4 #[.int .i64 h, .int .i64 m, .int .i64 s, .int .i64 n, .int .i64 6] w fun e w' => e = .returned (.bool true) ∧ Below w.heap.size w w' := by
  subst hnz
  obtain ⟨y, hy⟩ : ∃ y : Int, y = (s : Int) * 1000000000 := ⟨_, rfl⟩
  have HY := hidd hy
  have HT : Hid (∀ w, Calls Try.prog 18 #[.string (strOfNums (C6 h m s))] w fun e w' => e = .returned (.tuple #[Tv 6 h m y, .bool true]) ∧ Below w.heap.size w w') := fun w => by rw [hy]; exact T6 h m s w hh hm hs
  clear hy
  go_enter Try.func4, Try.ntmps4
  go_wp2_with fail
  refine (clk6 w.heap.size _ 0 [] h m s 0 _ (by omega) (by omega) (by omega) (by omega) (by omega) rfl (Nat.le_refl _) (World.ownsRow_nil _ _ _ _)).mono ?_
  rintro e w1 ⟨v1, rfl, hown0, hb1⟩
  have hown : w1.ownsRow w.heap.size 5 1 v1 (0 + 2 + 1 + 2 + 1 + 2) ((C6 h m s).map (Value.int .u8)) := hown0
  obtain ⟨g, cap, rfl, hconv⟩ := conv_own (by omega) hown
  clear hown hown0
  go_wp2_with fail
  refine (zpt_any _ 6 h m y _ HT.out).mono ?_
  rintro e w2 ⟨rfl, hb2⟩
  have HB := hidd (hb1.trans (hb2.mono hb1.size))
  clear hb1 hb2 hconv
  unfold Zv
  go_wp2_with fail
  go_ret
  exact ⟨rfl, (HB.out.alloc HB.out.size _).alloc (by have := HB.out.size; simp; omega) _⟩

set_option maxRecDepth 100000 in
set_option maxHeartbeats 1000000 in
theorem law7 (h m s n : Nat) (w : World) (hh : h ≤ 23) (hm : m ≤ 59) (hs : s ≤ 60) (hn : n ≤ 999999999) (hnz : 0 < n) :
    Calls Try.prog 4 #[.int .i64 h, .int .i64 m, .int .i64 s, .int .i64 n, .int .i64 6] w fun e w' => e = .returned (.bool true) ∧ Below w.heap.size w w' := by
  obtain ⟨y, hy⟩ : ∃ y : Int, y = (s : Int) * 1000000000 + n := ⟨_, rfl⟩
  have HY := hidd hy
  have HT : Hid (∀ w, Calls Try.prog 18 #[.string (strOfNums (C7 h m s n))] w fun e w' => e = .returned (.tuple #[Tv 6 h m y, .bool true]) ∧ Below w.heap.size w w') := fun w => by rw [hy]; exact T7 h m s n w hh hm hs hn
  clear hy
  go_enter Try.func4, Try.ntmps4
  go_wp2_with fail
  refine (clk7 w.heap.size _ 0 [] h m s n _ (by omega) (by omega) (by omega) (by omega) (by omega) hnz (Nat.le_refl _) (World.ownsRow_nil _ _ _ _)).mono ?_
  rintro e w1 ⟨v1, rfl, hown0, hb1⟩
  have hown : w1.ownsRow w.heap.size 5 1 v1 (0 + 2 + 1 + 2 + 1 + 2 + 1 + trim (dgt 9 n) 9) ((C7 h m s n).map (Value.int .u8)) := hown0
  obtain ⟨g, cap, rfl, hconv⟩ := conv_own (by omega) hown
  clear hown hown0
  go_wp2_with fail
  refine (zpt_any _ 6 h m y _ HT.out).mono ?_
  rintro e w2 ⟨rfl, hb2⟩
  have HB := hidd (hb1.trans (hb2.mono hb1.size))
  clear hb1 hb2 hconv
  unfold Zv
  go_wp2_with fail
  go_ret
  exact ⟨rfl, (HB.out.alloc HB.out.size _).alloc (by have := HB.out.size; simp; omega) _⟩


end Go.Proofs.Qxb6600803a
