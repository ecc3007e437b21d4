import Derived.Test.Qxb6601282aWalkC
namespace Go.Proofs.Qxb6601282a
open Go.RowKit Sk
set_option linter.unusedVariables false
set_option linter.unusedSimpArgs false

/-- a row that came in, at least one cell long: where it lies -/
theorem row_at {w : World} {x : Addr} {n : Nat} {t : Nat → Int} (hn : 0 < n) (h : ∀ i, i < n → w.cell? (x.add i) = some (.int .u8 (t i))) : x = ⟨x.block, x.off, none⟩ ∧ x.block < w.heap.size := by
  have h0 : w.cell? x = some (.int .u8 (t 0)) := by simpa [Addr.add] using h 0 hn
  have hs := World.cell?_spot h0
  refine ⟨by cases x; simp at hs; subst hs; rfl, ?_⟩
  by_cases hlt : x.block < w.heap.size
  · exact hlt
  · exfalso
    have : w.heap[x.block]? = none := Array.getElem?_eq_none (by omega)
    simp [World.cell?, this] at h0
theorem row_txt {w : World} {x : Addr} {n : Nat} {t : Nat → Int} (hx : x = ⟨x.block, x.off, none⟩) (h : ∀ i, i < n → w.cell? (x.add i) = some (.int .u8 (t i))) : Txt w x.block x.off n t := by
  intro i hi
  have := h i hi
  rw [hx] at this
  by_cases h0 : i = 0
  · subst h0; simpa [Addr.add] using this
  · simpa [Addr.add, h0] using this
theorem byte_range {zs : List Int} {n : Nat} (hn : n ≤ zs.length) (h : ∀ z ∈ zs, (Lit.int .u8 z).wf = true) : ∀ i, i < n → 0 ≤ zs.getD i 0 ∧ zs.getD i 0 < 256 := by
  intro i hi
  have hm : zs.getD i 0 ∈ zs := by
    rw [List.getD_eq_getElem?_getD, List.getElem?_eq_getElem (by omega)]
    exact List.getElem_mem _
  have := h _ hm
  have e1 : IntKind.u8.min = 0 := by decide
  have e2 : IntKind.u8.max = 255 := by decide
  generalize zs.getD i 0 = z at this ⊢
  simp [Lit.wf, e1, e2] at this
  omega

theorem cut_plain {t : Nat → Int} {n i A : Nat} (hi : i < n) (hA : A = ans n i (gl (S t n i) 0 0)) (hne : ¬ A = i) : i < A ∧ A ≤ n ∧ ans A i (gl (S t A i) 0 0) = A := by
  cases hg : gl (S t n i) 0 0 with
  | none => rw [hg] at hA; exact absurd hA hne
  | some r =>
    rw [hg] at hA
    obtain ⟨a, e, ha⟩ := gl_cut _ _ _ _ hg
    have hl := congrArg List.length e
    rw [S_length, List.length_append] at hl
    have hA' : A = n - r.length := hA
    have h1 : i < A := by omega
    have h2 : A ≤ n := by omega
    refine ⟨h1, h2, ?_⟩
    have h3 := S_take t n A h2 (A - i) i rfl (by omega)
    rw [e, List.take_left' (by omega)] at h3
    rw [← h3, ha]
    simp [ans]

set_option maxRecDepth 100000 in
set_option maxHeartbeats 800000 in
theorem law7 (a : Option Addr) (n cap : Nat) (t : Nat → Int) (x : Int) (w : World) (hmx : n ≤ 9223372036854775807) (hx1 : -9223372036854775808 ≤ x) (hx2 : x ≤ 9223372036854775807) (hnil : a = none → n = 0 ∧ cap = 0) (hr : ∀ i, i < n → 0 ≤ t i ∧ t i < 256) (hs : Src w a n t) :
    Calls Try.prog 7 #[.slice a n cap, .int .i64 x] w fun e w' => e = .returned (.bool true) ∧ Below w.heap.size w w' := by
  have HR := hidd hr
  have HS := hidd hs
  have HN := hidd hnil
  clear hr hs hnil
  by_cases h1 : n ≤ 1048576
  · have hdec : decide (n ≤ 1048576) = true := by simp; omega
    by_cases h2 : 0 ≤ x
    · go_enter Try.func7, Try.ntmps7
      go_wp2_with (go_at_call 18; refine (zb18 a n cap x _ hmx).mono ?_; rintro e w' ⟨rfl, rfl⟩)
      refine (clone_any a n cap t _ h1 HN.out HS.out).mono ?_
      rintro e w1 ⟨a', rfl, hn', hs', hb1⟩
      have HS' := hidd hs'
      have HB1 := hidd hb1
      clear hs' hn' hb1
      go_wp2_with fail
      by_cases h3 : x < n
      · obtain ⟨i, rfl⟩ : ∃ i : Nat, x = i := ⟨x.toNat, by omega⟩
        obtain ⟨b, off, rfl, hb, ht⟩ := HS'.out (by omega)
        have HT := hidd ht
        clear ht hb
        refine (zsv_any b off n n t i _ (by omega) (Nat.le_refl _) HR.out (by omega) HT.out).mono ?_
        rintro e w2 ⟨rfl, hw2⟩
        have hw2' := hw2.symm
        subst hw2'
        clear hw2
        obtain ⟨A, HA⟩ : ∃ A, Hid (A = ans n i (gl (S t n i) 0 0)) := ⟨_, rfl⟩
        rw [← HA.out]
        by_cases hAi : A = i
        · subst hAi
          go_wp2_with fail
          go_ret
          exact ⟨by first | rfl | trivial, HB1.out⟩
        · obtain ⟨c1, c2, c3⟩ := cut_plain (by omega) HA.out hAi
          have HC3 := hidd c3
          clear c3
          have e1 : ((A : Int) == i) = false := by simp; omega
          go_wp2_with fail
          refine (zsv_any b off A n t i _ (by omega) (by omega) (fun k hk => HR.out k (by omega)) c1 (fun k hk => HT.out k (by omega))).mono ?_
          rintro e w2 ⟨rfl, hw2⟩
          have hw2' := hw2.symm
          subst hw2'
          clear hw2
          rw [HC3.out]
          go_wp2_with fail
          go_ret
          exact ⟨by first | rfl | trivial, HB1.out⟩
      · refine (zsv_out a' n n x _ (by omega) (by omega)).mono ?_
        rintro e w2 ⟨rfl, hw2⟩
        have hw2' := hw2.symm
        subst hw2'
        clear hw2
        go_wp2_with fail
        go_ret
        exact ⟨by first | rfl | trivial, HB1.out⟩
    · go_enter Try.func7, Try.ntmps7
      go_wp2_with (go_at_call 18; refine (zb18 a n cap x _ hmx).mono ?_; rintro e w' ⟨rfl, rfl⟩)
      go_ret
      exact ⟨rfl, Below.refl _ _⟩
  · have hdec : decide (n ≤ 1048576) = false := by simp; omega
    go_enter Try.func7, Try.ntmps7
    go_wp2_with (go_at_call 18; refine (zb18 a n cap x _ hmx).mono ?_; rintro e w' ⟨rfl, rfl⟩)
    go_ret
    exact ⟨rfl, Below.refl _ _⟩

set_option maxRecDepth 100000 in
set_option maxHeartbeats 800000 in
theorem law5 (a : Option Addr) (n cap : Nat) (t : Nat → Int) (x : Int) (w : World) (hmx : n ≤ 9223372036854775807) (hx1 : -9223372036854775808 ≤ x) (hx2 : x ≤ 9223372036854775807) (hnil : a = none → n = 0 ∧ cap = 0) (hr : ∀ i, i < n → 0 ≤ t i ∧ t i < 256) (hs : Src w a n t) :
    Calls Try.prog 5 #[.slice a n cap, .int .i64 x] w fun e w' => e = .returned (.bool true) ∧ Below w.heap.size w w' := by
  have HR := hidd hr
  have HS := hidd hs
  have HN := hidd hnil
  clear hr hs hnil
  by_cases h1 : n ≤ 1048576
  · have hdec : decide (n ≤ 1048576) = true := by simp; omega
    by_cases h2 : 0 ≤ x
    · go_enter Try.func5, Try.ntmps5
      go_wp2_with (go_at_call 14; refine (zb14 a n cap x _ hmx).mono ?_; rintro e w' ⟨rfl, rfl⟩)
      refine (clone_any a n cap t _ h1 HN.out HS.out).mono ?_
      rintro e w1 ⟨a', rfl, hn', hs', hb1⟩
      have HS' := hidd hs'
      have HB1 := hidd hb1
      clear hs' hn' hb1
      go_wp2_with fail
      by_cases h3 : x < n
      · obtain ⟨i, rfl⟩ : ∃ i : Nat, x = i := ⟨x.toNat, by omega⟩
        obtain ⟨b, off, rfl, hb, ht⟩ := HS'.out (by omega)
        have HT := hidd ht
        clear ht hb
        refine (zsv_any b off n n t i _ (by omega) (Nat.le_refl _) HR.out (by omega) HT.out).mono ?_
        rintro e w2 ⟨rfl, hw2⟩
        have hw2' := hw2.symm
        subst hw2'
        clear hw2
        obtain ⟨A, HA⟩ : ∃ A, Hid (A = ans n i (gl (S t n i) 0 0)) := ⟨_, rfl⟩
        rw [← HA.out]
        go_wp2_with fail
        refine (se_any b off n n t i _ (by omega) (Nat.le_refl _) (by omega) HT.out).mono ?_
        rintro e w2 ⟨rfl, hw2⟩
        have hw2' := hw2.symm
        subst hw2'
        clear hw2
        rw [← HA.out]
        go_wp2_with fail
        go_ret
        exact ⟨by first | rfl | trivial, HB1.out⟩
      · refine (zsv_out a' n n x _ (by omega) (by omega)).mono ?_
        rintro e w2 ⟨rfl, hw2⟩
        have hw2' := hw2.symm
        subst hw2'
        clear hw2
        go_wp2_with fail
        refine (se_out a' n n x _ (by omega) (by omega)).mono ?_
        rintro e w2 ⟨rfl, hw2⟩
        have hw2' := hw2.symm
        subst hw2'
        clear hw2
        go_wp2_with fail
        go_ret
        exact ⟨by first | rfl | trivial, HB1.out⟩
    · go_enter Try.func5, Try.ntmps5
      go_wp2_with (go_at_call 14; refine (zb14 a n cap x _ hmx).mono ?_; rintro e w' ⟨rfl, rfl⟩)
      go_ret
      exact ⟨rfl, Below.refl _ _⟩
  · have hdec : decide (n ≤ 1048576) = false := by simp; omega
    go_enter Try.func5, Try.ntmps5
    go_wp2_with (go_at_call 14; refine (zb14 a n cap x _ hmx).mono ?_; rintro e w' ⟨rfl, rfl⟩)
    go_ret
    exact ⟨rfl, Below.refl _ _⟩

end Go.Proofs.Qxb6601282a
