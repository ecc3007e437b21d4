/-
  THE SHELL OF A PROOF OF 'Rows.FnSkipValueSpansNestedStringSaid' ('example.com/fieldledger/fieldledger/zzlaws_codec_b1.FnSkipValueSpansNestedString'), WRITTEN BY PROGRAM (proof-skeleton.mjs, third state) off the guide's own print for that function.
  THE WALK IS FILLED. ALL ELSE IS THE GUIDE's OWN WAY (howto/template/XProofs.lean; Derived/Test/ChunkProofs.lean for 'Below') at this function's number and types: leave it.
-/
import Derived.Test.Qxb6601282aRows
import Derived.Test.Qxb6601282aWalkF
import Derived.WalkKit
import Derived.ProofKit
import Derived.OpenShut
import Derived.ShutString
import Derived.ChangeOld
import Derived.Below
namespace Go.Proofs.Qxb6601282a.fnSkipValueSpansNestedString
open Go.ChangeShapes Go.WideShapes Go.ChangeAt Go.RowKit
open Go.ChangeMaps (open_string shut_string)
set_option linter.unusedVariables false

theorem own : ownKnob Try.prog.godebug = none := by kernel_rfl
theorem laidOut : laidOutB Try.prog = true := by kernel_rfl

/-- WHAT THE WALK IS TOLD OF A SLICE OF INTEGERS THAT CAME IN: it is nil; or it leads to a row of 'cap' cells, the numbers 'zs' (the first 'len' are its elements, the rest its spare room), each fitting its kind. -/
def IsRow (k : IntKind) (w : World) (a : Option Addr) (len cap : Nat) (zs : List Int) : Prop :=
  (a = none ∧ len = 0 ∧ cap = 0 ∧ zs = []) ∨
  ∃ x, a = some x ∧ len ≤ cap ∧ cap ≤ maxLen ∧ zs.length = cap ∧ (∀ i, i < zs.length → w.cell? (x.add i) = some (.int k (zs.getD i 0))) ∧ ∀ n ∈ zs, (Lit.int k n).wf = true

set_option maxRecDepth 100000 in
set_option maxHeartbeats 1600000 in
theorem early (a0 a1 a3 : Option Addr) (n0 c0 n1 c1 n3 c3 : Nat) (x : Int) (w : World) (h0 : n0 ≤ 9223372036854775807) (h1 : n1 ≤ 9223372036854775807) (h3 : n3 ≤ 9223372036854775807) (hx1 : -9223372036854775808 ≤ x) (hx2 : x ≤ 9223372036854775807) :
    (Calls Try.prog 6 #[.slice a0 n0 c0, .slice a1 n1 c1, .int .i64 x, .slice a3 n3 c3] w fun e w' => e = .returned (.bool true) ∧ Below w.heap.size w w') ∨ (n0 ≤ 262144 ∧ n1 ≤ 262144 ∧ n3 ≤ 262144 ∧ 0 ≤ x ∧ x ≤ 4096) := by
  by_cases k0 : n0 ≤ 262144
  · by_cases k1 : n1 ≤ 262144
    · by_cases k3 : n3 ≤ 262144
      · by_cases k4 : 0 ≤ x
        · by_cases k5 : x ≤ 4096
          · exact .inr ⟨k0, k1, k3, k4, k5⟩
          · left
            have e1 : decide (x < 0) = false := by simp; omega
            have e2 : decide (4096 < x) = true := by simp; omega
            go_enter Try.func6, Try.ntmps6
            go_wp2_with (go_at_call 17; refine (zb17_yes a0 a1 a3 n0 c0 n1 c1 n3 c3 x _ k0 k1 k3).mono ?_; rintro e w' ⟨rfl, rfl⟩)
            go_ret
            exact ⟨rfl, Below.refl _ _⟩
        · left
          have e1 : decide (x < 0) = true := by simp; omega
          go_enter Try.func6, Try.ntmps6
          go_wp2_with (go_at_call 17; refine (zb17_yes a0 a1 a3 n0 c0 n1 c1 n3 c3 x _ k0 k1 k3).mono ?_; rintro e w' ⟨rfl, rfl⟩)
          go_ret
          exact ⟨rfl, Below.refl _ _⟩
      · left
        go_enter Try.func6, Try.ntmps6
        go_wp2_with fail
        refine (zb17_any a0 a1 a3 n0 c0 n1 c1 n3 c3 x _ h0 h1 h3).mono ?_
        rintro e w' ⟨b, rfl, rfl⟩
        cases b
        all_goals
          go_wp2_with fail
          go_ret
          exact ⟨rfl, Below.refl _ _⟩
    · left
      go_enter Try.func6, Try.ntmps6
      go_wp2_with fail
      refine (zb17_any a0 a1 a3 n0 c0 n1 c1 n3 c3 x _ h0 h1 h3).mono ?_
      rintro e w' ⟨b, rfl, rfl⟩
      cases b
      all_goals
        go_wp2_with fail
        go_ret
        exact ⟨rfl, Below.refl _ _⟩
  · left
    go_enter Try.func6, Try.ntmps6
    go_wp2_with fail
    refine (zb17_any a0 a1 a3 n0 c0 n1 c1 n3 c3 x _ h0 h1 h3).mono ?_
    rintro e w' ⟨b, rfl, rfl⟩
    cases b
    all_goals
      go_wp2_with fail
      go_ret
      exact ⟨rfl, Below.refl _ _⟩

/-- a row that came in, as the laws take it -/
theorem row_src {w : World} {a : Option Addr} {n cap : Nat} {zs : List Int} (h : IsRow .u8 w a n cap zs) : n ≤ 9223372036854775807 ∧ (a = none → n = 0 ∧ cap = 0) ∧ (∀ i, i < n → 0 ≤ zs.getD i 0 ∧ zs.getD i 0 < 256) ∧ Src w a n (fun i => zs.getD i 0) := by
  rcases h with ⟨rfl, rfl, rfl, rfl⟩ | ⟨x, rfl, hl, hm, hz, hcell, hwz⟩
  · exact ⟨by omega, fun _ => ⟨rfl, rfl⟩, fun i hi => by omega, fun h => by omega⟩
  · refine ⟨by unfold maxLen at hm; omega, fun h => by simp at h, byte_range (by omega) hwz, fun h0 => ?_⟩
    obtain ⟨hx, hlt⟩ := row_at (t := fun i => zs.getD i 0) (n := n) h0 (fun i hi => hcell i (by omega))
    exact ⟨x.block, x.off, by rw [← hx], hlt, row_txt hx (fun i hi => hcell i (by omega))⟩

/-! ### STEP 1: THE WALK: the Go text returns true, AND WRITES NOTHING THAT WAS THERE: 'Below w.heap.size w w'' (Derived/Below.lean: '.refl', '.alloc', '.drew', '.setCell' at a new block, '.trans'). Open each 'IsRow' by 'rcases' AHEAD of 'go_enter'; part every test ahead of the walk. -/
theorem walk (a0 : Option Addr) (len0 cap0 : Nat) (z0 : List Int) (a1 : Option Addr) (len1 cap1 : Nat) (z1 : List Int) (a2 : Int) (a3 : Option Addr) (len3 cap3 : Nat) (z3 : List Int) (w : World) (w0 : IsRow .u8 w a0 len0 cap0 z0) (w1 : IsRow .u8 w a1 len1 cap1 z1) (w2 : (Lit.int .i64 a2).wf = true) (w3 : IsRow .u8 w a3 len3 cap3 z3) :
    Calls Try.prog 6 #[.slice a0 len0 cap0, .slice a1 len1 cap1, .int .i64 a2, .slice a3 len3 cap3] w fun e w' => e = .returned (.bool true) ∧ Below w.heap.size w w' := by
  have hw2 : -9223372036854775808 ≤ a2 ∧ a2 ≤ 9223372036854775807 := by
    have h := w2
    have e1 : IntKind.i64.min = -9223372036854775808 := by decide
    have e2 : IntKind.i64.max = 9223372036854775807 := by decide
    simp [Lit.wf, e1, e2] at h
    omega
  obtain ⟨m0, l0, r0, s0⟩ := row_src w0
  obtain ⟨m1, l1, r1, s1⟩ := row_src w1
  obtain ⟨m3, l3, r3, s3⟩ := row_src w3
  rcases early a0 a1 a3 len0 cap0 len1 cap1 len3 cap3 a2 w m0 m1 m3 hw2.1 hw2.2 with h | ⟨h0, h1, h3, h4, h5⟩
  · exact h
  · obtain ⟨d, rfl⟩ : ∃ d : Nat, a2 = d := ⟨a2.toNat, by omega⟩
    exact law6 a0 a1 a3 len0 cap0 len1 cap1 len3 cap3 _ _ _ d w h0 h1 h3 (by omega) l0 l1 l3 r0 r1 r3 s0 s1 s3

/-! ### THE ROW's STEP: WRITTEN OUT: LEAVE IT -/
set_option maxRecDepth 100000 in
theorem lifted (os : Os) (started : os.Started) (H : Type) (enc : TypeId × Value → H) :
    ReturnsInHanded {} Try.checked os 6 .any (Rows.fnSkipValueSpansNestedStringSpec.pre6 enc Try.prog Try.f6 Rows.fnSkipValueSpansNestedStringRow.domain false) (Rows.fnSkipValueSpansNestedStringSpec.post enc Try.prog Try.f6 false true false false) := by
  refine returnsInHanded_of_change (C := Try.checked) own started (by kernel_rfl) Try.func6
    (ChangeSpec.witness6 (enc := enc) (C := Try.checked) false ⟨#[], #[.slice none 0 0, .slice none 0 0, .int .i64 0, .slice none 0 0], []⟩ 8 (by kernel_rfl) (by kernel_rfl) (by kernel_rfl) (by kernel_rfl)) ?_
  intro W base args ds gs before hval0 hW hcnd _
  have hval : ∀ (j : Nat) t v, Try.f6.params[j]? = some t → args[j]? = some v → Value.okWide Try.prog W .any base t v := hval0
  have hW' := hW
  obtain ⟨p, q, hA0, hV, rfl, hfz, hnd⟩ := hW
  have hA : DataW.TrodAll enc Try.prog W 0 (fun _ => true) true Try.f6.params.toList args.toList ds p := hA0
  rw [Try.params6] at hA hval
  obtain ⟨v0, vs0, d0, ds0, p0, q0, hargs, rfl, rfl, h0, r0⟩ := trodAll_cons hA
  obtain ⟨v1, vs1, d1, ds1, p1, q1, rfl, rfl, rfl, h1, r1⟩ := trodAll_cons r0
  obtain ⟨v2, vs2, d2, ds2, p2, q2, rfl, rfl, rfl, h2, r2⟩ := trodAll_cons r1
  obtain ⟨v3, vs3, d3, ds3, p3, q3, rfl, rfl, rfl, h3, r3⟩ := trodAll_cons r2
  obtain ⟨rfl, rfl, rfl⟩ := trodAll_nil r3
  obtain rfl : args = #[v0, v1, v2, v3] := by cases args; simp_all
  obtain ⟨rfl, rfl⟩ := trodVars_none hV
  obtain ⟨a0, len0, cap0, rfl⟩ := okWide_slice Try.underlying22 (hval 0 22 v0 rfl rfl)
  have k0 := h0
  have lt0 : ∀ x ∈ p0, x.block < W.heap.size := by obtain ⟨m, hm⟩ := k0; exact DataW.trod_lt m _ _ _ hm
  obtain ⟨z0, w0⟩ : ∃ zs, IsRow .u8 W a0 len0 cap0 zs := by
    obtain ⟨fuel, hf⟩ := h0
    rcases open_ints Try.underlying22 Try.underlying5 (by kernel_rfl) hf with ⟨hcs, _⟩ | ⟨x, l, c, zs, hcs, _, hl, hm, hz, _, hcell, hwz⟩
    · simp [Value.cells] at hcs
      obtain ⟨rfl, rfl, rfl⟩ := hcs
      exact ⟨[], .inl ⟨rfl, rfl, rfl, rfl⟩⟩
    · simp [Value.cells] at hcs
      obtain ⟨rfl, rfl, rfl⟩ := hcs
      exact ⟨zs, .inr ⟨_, rfl, hl, hm, by simpa using hz, hcell, hwz⟩⟩
  obtain ⟨a1, len1, cap1, rfl⟩ := okWide_slice Try.underlying22 (hval 1 22 v1 rfl rfl)
  have k1 := h1
  have lt1 : ∀ x ∈ p1, x.block < W.heap.size := by obtain ⟨m, hm⟩ := k1; exact DataW.trod_lt m _ _ _ hm
  obtain ⟨z1, w1⟩ : ∃ zs, IsRow .u8 W a1 len1 cap1 zs := by
    obtain ⟨fuel, hf⟩ := h1
    rcases open_ints Try.underlying22 Try.underlying5 (by kernel_rfl) hf with ⟨hcs, _⟩ | ⟨x, l, c, zs, hcs, _, hl, hm, hz, _, hcell, hwz⟩
    · simp [Value.cells] at hcs
      obtain ⟨rfl, rfl, rfl⟩ := hcs
      exact ⟨[], .inl ⟨rfl, rfl, rfl, rfl⟩⟩
    · simp [Value.cells] at hcs
      obtain ⟨rfl, rfl, rfl⟩ := hcs
      exact ⟨zs, .inr ⟨_, rfl, hl, hm, by simpa using hz, hcell, hwz⟩⟩
  obtain ⟨a2, rfl, rfl, rfl, w2⟩ := open_int Try.underlying3 (hval 2 3 v2 rfl rfl) h2
  obtain ⟨a3, len3, cap3, rfl⟩ := okWide_slice Try.underlying22 (hval 3 22 v3 rfl rfl)
  have k3 := h3
  have lt3 : ∀ x ∈ p3, x.block < W.heap.size := by obtain ⟨m, hm⟩ := k3; exact DataW.trod_lt m _ _ _ hm
  obtain ⟨z3, w3⟩ : ∃ zs, IsRow .u8 W a3 len3 cap3 zs := by
    obtain ⟨fuel, hf⟩ := h3
    rcases open_ints Try.underlying22 Try.underlying5 (by kernel_rfl) hf with ⟨hcs, _⟩ | ⟨x, l, c, zs, hcs, _, hl, hm, hz, _, hcell, hwz⟩
    · simp [Value.cells] at hcs
      obtain ⟨rfl, rfl, rfl⟩ := hcs
      exact ⟨[], .inl ⟨rfl, rfl, rfl, rfl⟩⟩
    · simp [Value.cells] at hcs
      obtain ⟨rfl, rfl, rfl⟩ := hcs
      exact ⟨zs, .inr ⟨_, rfl, hl, hm, by simpa using hz, hcell, hwz⟩⟩
  clear hA0 hval0
  refine (walk a0 len0 cap0 z0 a1 len1 cap1 z1 a2 a3 len3 cap3 z3 W w0 w1 w2 w3).mono fun e W' ⟨he, bel⟩ => ?_
  subst he
  exact ⟨_, rfl, _, _, _, [], _, [], hW', trodAll_mk1 (shut_bool Try.underlying4 _), (trodAll_cons_mk (Below.trod laidOut (by kernel_rfl) (of_decide_eq_true (by kernel_rfl)) k0 bel lt0) (trodAll_cons_mk (Below.trod laidOut (by kernel_rfl) (of_decide_eq_true (by kernel_rfl)) k1 bel lt1) (trodAll_cons_mk (shut_int Try.underlying3 w2) (trodAll_cons_mk (Below.trod laidOut (by kernel_rfl) (of_decide_eq_true (by kernel_rfl)) k3 bel lt3) trodAll_mk0)))), rfl, bel.frame _, fun h => by cases h⟩

theorem over : Rows.fnSkipValueSpansNestedStringRow.holds Try.pinned (OpenSpec.ofChange Rows.fnSkipValueSpansNestedStringSpec) :=
  OpenClaim.holds_of_wide 6 Try.f6 rfl rfl rfl rfl rfl rfl rfl ⟨rfl, rfl, rfl, rfl, rfl⟩ rfl rfl rfl rfl rfl (by kernel_rfl) Try.func6 (by kernel_rfl)
    (of_decide_eq_true (by kernel_rfl)) (by unfold Func.isWrapper; first | (rw [if_pos (by decide +kernel)]; kernel_rfl) | (rw [if_neg (by decide +kernel)]; exact ⟨rfl, rfl⟩))
    (fun os started H enc _ => lifted os started H enc)

/-- ████ THE STATEMENT ████ -/
theorem proved : Rows.FnSkipValueSpansNestedStringSaid := over
end Go.Proofs.Qxb6601282a.fnSkipValueSpansNestedString
