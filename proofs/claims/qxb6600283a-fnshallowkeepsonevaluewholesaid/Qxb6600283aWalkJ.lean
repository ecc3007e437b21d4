import Derived.Test.Qxb6600283aWalkG
import Derived.Test.Qxb6600283aWalkI
import Derived.Deep.OwnRows
import Derived.Lib.SliceRun
namespace Go.Proofs.Qxb6600283a
open Go.RowKit Js
set_option linter.unusedVariables false
set_option linter.unusedSimpArgs false

theorem info5 : (Try.prog.info? 5).map (fun i => (i.zero, i.size, i.bytes)) = some (some (Value.int IntKind.u8 0), 1, 1) := by kernel_rfl

set_option maxRecDepth 100000 in
set_option maxHeartbeats 800000 in
theorem clone_any (b off n cap : Nat) (t : Nat → Int) (w : World) (hn : n ≤ 1048576) (hb : b < w.heap.size) (hc : Txt w b off n t) :
    Calls Try.prog 12 #[.slice (some ⟨b, off, none⟩) n cap] w fun e w' => e = .returned (.slice (some ⟨w.heap.size, 0, none⟩) n n) ∧ w'.rowIs w.heap.size 5 n (fun i => .int .u8 (t i)) ∧ Below w.heap.size w w' := by
  have hnil : ∀ wx : World, (binOp .eql 22 (.slice (some ⟨b, off, none⟩) n cap) (.slice none 0 0)).run Try.prog wx = .ok (.bool false) wx := fun wx => Lib.run_eql_slice_nil wx 22 5 (some ⟨b, off, none⟩) n cap 0 0 Try.underlying22
  have hmk := run_make_row' (P := Try.prog) 22 5 (.int .u8 0) 1 Try.underlying22 info5 rfl .i64 .i64 n (by omega) (by omega)
  have HC : Hid (Txt w b off n t) := hc
  clear hc
  go_enter Try.func12, Try.ntmps12
  go_wp2
  go_loopw [4] (fun v wr => ∃ k : Nat, k ≤ n ∧ v = .int .i64 k ∧ Hid (wr.rowIs w.heap.size 5 n (fun i => if i < k then .int .u8 (t i) else .int .u8 0)) ∧ Hid (Below w.heap.size w wr)) (fun v _ => n - (intOf v).toNat)
  case atStart => exact ⟨0, by omega, rfl, (World.rowIs_made w (.int .u8 0) n 5).congr (fun j _ => by simp), (Below.refl _ _).alloc (Nat.le_refl _) _⟩
  case round =>
    obtain ⟨k, hk, rfl, hrw, hbl⟩ := hrel
    by_cases hlt : k < n
    · have hcx : wr.cell? ⟨b, off + k, none⟩ = some (.int .u8 (t k)) := (hbl.out.cell (p := ⟨b, off + k, none⟩) hb).trans (HC.out k hlt)
      have hf1 : wr.frozen? ⟨w.heap.size, k, none⟩ = false := hrw.out.frozen _
      have hc1 := hrw.out.cell (i := k) hlt
      have hc2 : ∃ v, wr.cell? ⟨w.heap.size, k, none⟩ = some v := ⟨_, hc1⟩
      obtain ⟨v0, hv0⟩ := hc2
      clear hc1
      go_wp2
      go_roundw
      case rel => exact ⟨k + 1, by omega, by go_num, (hrw.out.set k _).congr (fun j hj => by
        by_cases h1 : j = k
        · subst h1; simp
        · by_cases h2 : j < k
          · simp [h1, h2, show j < k + 1 by omega]
          · simp [h1, h2, show ¬ j < k + 1 by omega]), hbl.out.setCell (Nat.le_refl _) _⟩
      case measure => simp [intOf]; omega
    · go_wp2
      go_ret
      exact ⟨rfl, hrw.out.congr (fun j hj => by simp [show j < k by omega]), hbl.out⟩

theorem bel_drewN {B : Nat} {a w : World} (h : Below B a w) (n : Nat) : Below B a (w.drewN n) := h.trans ⟨rfl, rfl, rfl, Nat.le_refl _, fun _ _ => rfl⟩

set_option maxRecDepth 100000 in
theorem zb_any (a : Option Addr) (n cap : Nat) (x : Int) (w : World) (hn : n ≤ 9223372036854775807) :
    Calls Try.prog 23 #[.slice a n cap, .int .i64 x] w fun e w' => e = .returned (.bool (decide (n ≤ 1048576))) ∧ w' = w := by
  by_cases h : n ≤ 1048576
  all_goals
    go_enter Try.func23, Try.ntmps23
    go_wp2
    go_ret
    exact ⟨ret_bool (by simp; omega), rfl⟩

theorem Txt.of_row {w : World} {b n : Nat} {t : Nat → Int} (h : w.rowIs b 5 n (fun i => .int .u8 (t i))) : Txt w b 0 n t := fun i hi => by
  rw [Nat.zero_add]; exact h.cell hi

/-- a row that came in, at least one cell long: where it lies -/
theorem row_at {w : World} {x : Addr} {n : Nat} {t : Nat → Int} (hn : 0 < n) (h : ∀ i, i < n → w.cell? (x.add i) = some (.int .u8 (t i))) : x = ⟨x.block, x.off, none⟩ ∧ x.block < w.heap.size := by
  have h0 : w.cell? x = some (.int .u8 (t 0)) := by simpa [Addr.add] using h 0 hn
  have hs := World.cell?_spot h0
  refine ⟨by cases x; simp at hs; subst hs; rfl, ?_⟩
  by_cases hlt : x.block < w.heap.size
  · exact hlt
  · exfalso
    have : w.heap[x.block]? = none := Array.getElem?_eq_none (by omega)
    simp [World.cell?, this] at h0
theorem row_txt {w : World} {x : Addr} {n : Nat} {t : Nat → Int} (hx : x = ⟨x.block, x.off, none⟩) (h : ∀ i, i < n → w.cell? (x.add i) = some (.int .u8 (t i))) : Txt w x.block x.off n t := by
  intro i hi
  have := h i hi
  rw [hx] at this
  by_cases h0 : i = 0
  · subst h0; simpa [Addr.add] using this
  · simpa [Addr.add, h0] using this
theorem byte_range {zs : List Int} {n : Nat} (hn : n ≤ zs.length) (h : ∀ z ∈ zs, (Lit.int .u8 z).wf = true) : ∀ i, i < n → 0 ≤ zs.getD i 0 ∧ zs.getD i 0 < 256 := by
  intro i hi
  have hm : zs.getD i 0 ∈ zs := by
    rw [List.getD_eq_getElem?_getD, List.getElem?_eq_getElem (by omega)]
    exact List.getElem_mem _
  have := h _ hm
  have e1 : IntKind.u8.min = 0 := by decide
  have e2 : IntKind.u8.max = 255 := by decide
  generalize zs.getD i 0 = z at this ⊢
  simp [Lit.wf, e1, e2] at this
  omega

set_option maxRecDepth 100000 in
set_option maxHeartbeats 1600000 in
theorem law1 (b off n cap : Nat) (t : Nat → Int) (i : Nat) (w : World) (hn : n ≤ 1048576) (hi : i < n) (hb : b < w.heap.size) (hr : ∀ i, i < n → 0 ≤ t i ∧ t i < 256) (hc : Txt w b off n t) :
    Calls Try.prog 9 #[.slice (some ⟨b, off, none⟩) n cap, .int .i64 i] w fun e w' => e = .returned (.bool true) ∧ Below w.heap.size w w' := by
  have HR : Hid (∀ i, i < n → 0 ≤ t i ∧ t i < 256) := hr
  clear hr
  have hci := hc i hi
  go_enter Try.func9, Try.ntmps9
  go_wp2_with fail
  refine (zb_any (some ⟨b, off, none⟩) n cap i _ (by omega)).mono ?_
  rintro e w' ⟨rfl, rfl⟩
  have hdec : decide (n ≤ 1048576) = true := by simp; omega
  go_wp2_with fail
  refine (val_any b off n cap t hn (2 * n + 2) i _ (by omega) (by omega) hc).mono ?_
  rintro e w2 ⟨x, rfl, hres, q, rfl⟩
  rcases hres with ⟨ho, rfl⟩ | ⟨j, ho, h1, h2, rfl⟩
  · go_wp2_with fail
    go_ret
    exact ⟨rfl, bel_drewN (Below.refl _ _) q⟩
  · have HO : Hid (P (2 * n + 2) 0 (S t n i) = some (S t n j)) := ho
    clear ho
    by_cases hsc : ¬ t i = 34 ∧ ¬ t i = 91 ∧ ¬ t i = 123 ∧ j < n ∧ isDl (t j) = false
    · obtain ⟨a1, a2, a3, a4, a5⟩ := hsc
      have e1 : (t i != 34) = true := by simp [a1]
      have e2 : (t i != 91) = true := by simp [a2]
      have e3 : (t i != 123) = true := by simp [a3]
      have hcj := hc j a4
      clear a1 a2 a3
      go_wp2_with (go_at_call 25; refine (isDl_any _ _).mono ?_; rintro e w' ⟨rfl, rfl⟩)
      go_ret
      exact ⟨rfl, bel_drewN (Below.refl _ _) q⟩
    · have hd : t i = 34 ∨ t i = 91 ∨ t i = 123 ∨ j = n ∨ j < n ∧ isDl (t j) = true := by
        by_cases a1 : t i = 34
        · exact .inl a1
        · by_cases a2 : t i = 91
          · exact .inr (.inl a2)
          · by_cases a3 : t i = 123
            · exact .inr (.inr (.inl a3))
            · by_cases a4 : j < n
              · cases a5 : isDl (t j)
                · exact absurd ⟨a1, a2, a3, a4, a5⟩ hsc
                · exact .inr (.inr (.inr (.inr ⟨a4, rfl⟩)))
              · exact .inr (.inr (.inr (.inl (by omega))))
      have HVE : Hid (VE t n i j) := VE_of_P hi h2 HO.out hd
      clear hsc HO
      have hform : ((t i != 34) = false) ∨ ((t i != 34) = true ∧ (t i != 91) = false) ∨ ((t i != 34) = true ∧ (t i != 91) = true ∧ (t i != 123) = false) ∨
          ((t i != 34) = true ∧ (t i != 91) = true ∧ (t i != 123) = true ∧ ¬ j < n) ∨ ((t i != 34) = true ∧ (t i != 91) = true ∧ (t i != 123) = true ∧ j < n ∧ isDl (t j) = true) := by
        by_cases a1 : t i = 34
        · exact .inl (by simp [a1])
        · by_cases a2 : t i = 91
          · exact .inr (.inl (by simp [a2]))
          · by_cases a3 : t i = 123
            · exact .inr (.inr (.inl (by simp [a3])))
            · by_cases a4 : j < n
              · refine .inr (.inr (.inr (.inr ⟨by simp [a1], by simp [a2], by simp [a3], a4, ?_⟩)))
                rcases hd with h | h | h | h | h
                · exact absurd h a1
                · exact absurd h a2
                · exact absurd h a3
                · omega
                · exact h.2
              · exact .inr (.inr (.inr (.inl ⟨by simp [a1], by simp [a2], by simp [a3], a4⟩)))
      clear hd
      have hcj := fun h : j < n => hc j h
      have hB0 : Below w'.heap.size w' (w'.drewN q) := bel_drewN (Below.refl _ _) q
      have HB0 : Hid (Below w'.heap.size w' (w'.drewN q)) := hB0
      clear hB0
      rcases hform with e1 | ⟨e1, e2⟩ | ⟨e1, e2, e3⟩ | ⟨e1, e2, e3, e4⟩ | ⟨e1, e2, e3, e4, e5⟩
      all_goals
        go_wp2_with (first | (go_at_call 25; refine (isDl_any _ _).mono ?_; rintro e w' ⟨rfl, rfl⟩) | (go_at_call 12; refine (clone_any b off n cap t _ hn (by exact hb) (by exact hc)).mono ?_; rintro e w3 ⟨rfl, hrow, hbel⟩) | (go_at_call 26; refine (zve_any _ 0 n n t i j _ hn (Nat.le_refl _) HR.out hi h2 HVE.out (Txt.of_row hrow)).mono ?_; rintro e w4 ⟨rfl, rfl⟩))
        go_ret
        exact ⟨rfl, HB0.out.trans hbel⟩

end Go.Proofs.Qxb6600283a
