/-
  THE SHELL OF A PROOF OF 'Rows.FnParseExponentRoundTripSaid' ('example.com/cardume/cardume/zzlaws_store_b1.FnParseExponentRoundTrip'), WRITTEN BY PROGRAM (proof-skeleton.mjs) off the guide's own print for that function.
  THE WALK IS FILLED; THE FRAME SAYS 'Below' WHERE THE TEMPLATE SAID 'Grown'. ALL ELSE IS THE GUIDE's TEMPLATE (howto/template/XProofs.lean) at this function's number and types: leave it.
-/
import Derived.Test.Qxb6600543aRows
import Derived.Test.Qxb6600543aWalkC
import Derived.WalkKit
import Derived.ProofKit
import Derived.OpenShut
import Derived.ShutString
import Derived.ChangeOld
import Derived.Below
namespace Go.Proofs.Qxb6600543a.fnParseExponentRoundTrip
open Go.ChangeShapes Go.WideShapes Go.ChangeAt Go.RowKit
open Go.ChangeMaps (open_string shut_string)
set_option linter.unusedVariables false      -- a walk need not use every 'w<i>' (that an integer argument fits its kind)

theorem own : ownKnob Try.prog.godebug = none := by kernel_rfl

theorem w64 {x : Int} (h : (Lit.int .i64 x).wf = true) : -9223372036854775808 ≤ x ∧ x ≤ 9223372036854775807 := by
  have e1 : IntKind.i64.min = -9223372036854775808 := by decide
  have e2 : IntKind.i64.max = 9223372036854775807 := by decide
  simp [Lit.wf, e1, e2] at h
  omega

set_option maxRecDepth 100000 in
set_option maxHeartbeats 800000 in
theorem early (e : Int) (m : ByteArray) (k z : Int) (p : Bool) (w : World) (hm : m.size ≤ 9223372036854775807) (he : -9223372036854775808 ≤ e ∧ e ≤ 9223372036854775807) (hk : -9223372036854775808 ≤ k ∧ k ≤ 9223372036854775807) (hz : -9223372036854775808 ≤ z ∧ z ≤ 9223372036854775807) :
    (Calls Try.prog 4 #[.int .i64 e, .string m, .int .i64 k, .int .i64 z, .bool p] w fun e w' => e = .returned (.bool true) ∧ Below w.heap.size w w') ∨ (m.size ≤ 65536 ∧ 0 ≤ k ∧ k < m.size ∧ 0 ≤ z ∧ z ≤ 4096) := by
  by_cases h0 : m.size ≤ 1048576
  · have hdec : decide (m.size ≤ 1048576) = true := by simp; omega
    by_cases h1 : m.size ≤ 65536
    · by_cases h2 : 0 ≤ k
      · by_cases h3 : k < m.size
        · by_cases h4 : 0 ≤ z
          · by_cases h5 : z ≤ 4096
            · exact .inr ⟨h1, h2, h3, h4, h5⟩
            · left
              go_enter Try.func4, Try.ntmps4
              go_wp2_with (go_at_call 11; refine (zb_any _ _ _ _ _ _ hm).mono ?_; rintro e w' ⟨rfl, rfl⟩)
              go_ret
              exact ⟨rfl, Below.refl _ _⟩
          · left
            go_enter Try.func4, Try.ntmps4
            go_wp2_with (go_at_call 11; refine (zb_any _ _ _ _ _ _ hm).mono ?_; rintro e w' ⟨rfl, rfl⟩)
            go_ret
            exact ⟨rfl, Below.refl _ _⟩
        · left
          go_enter Try.func4, Try.ntmps4
          go_wp2_with (go_at_call 11; refine (zb_any _ _ _ _ _ _ hm).mono ?_; rintro e w' ⟨rfl, rfl⟩)
          go_ret
          exact ⟨rfl, Below.refl _ _⟩
      · left
        go_enter Try.func4, Try.ntmps4
        go_wp2_with (go_at_call 11; refine (zb_any _ _ _ _ _ _ hm).mono ?_; rintro e w' ⟨rfl, rfl⟩)
        go_ret
        exact ⟨rfl, Below.refl _ _⟩
    · left
      go_enter Try.func4, Try.ntmps4
      go_wp2_with (go_at_call 11; refine (zb_any _ _ _ _ _ _ hm).mono ?_; rintro e w' ⟨rfl, rfl⟩)
      go_ret
      exact ⟨rfl, Below.refl _ _⟩
  · left
    have hdec : decide (m.size ≤ 1048576) = false := by simp; omega
    go_enter Try.func4, Try.ntmps4
    go_wp2_with (go_at_call 11; refine (zb_any _ _ _ _ _ _ hm).mono ?_; rintro e w' ⟨rfl, rfl⟩)
    go_ret
    exact ⟨rfl, Below.refl _ _⟩

/-! ### STEP 1: THE WALK: the Go text returns true. 'Below w.heap.size w w'': nothing that was there has turned. Part the cases AHEAD of 'go_enter' where a test parts the walk; take each callee by a contract of your own. -/
theorem walk (a0 : Int) (a1 : ByteArray) (a2 : Int) (a3 : Int) (a4 : Bool) (w0 : (Lit.int .i64 a0).wf = true) (w1 : a1.size ≤ maxLen) (w2 : (Lit.int .i64 a2).wf = true) (w3 : (Lit.int .i64 a3).wf = true) (w : World) :
    Calls Try.prog 4 #[.int .i64 a0, .string a1, .int .i64 a2, .int .i64 a3, .bool a4] w fun e w' => e = .returned (.bool true) ∧ Below w.heap.size w w' := by
  have hw0 := w64 w0
  have hw2 := w64 w2
  have hw3 := w64 w3
  have hmx : a1.size ≤ 9223372036854775807 := by unfold maxLen at w1; omega
  rcases early a0 a1 a2 a3 a4 w hmx hw0 hw2 hw3 with h | ⟨h1, h2, h3, h4, h5⟩
  · exact h
  · obtain ⟨k, rfl⟩ : ∃ k : Nat, a2 = k := ⟨a2.toNat, by omega⟩
    obtain ⟨z, rfl⟩ : ∃ z : Nat, a3 = z := ⟨a3.toNat, by omega⟩
    by_cases hneg : a0 < 0
    · exact law_neg a0 a1 k z a4 w hw0.1 hw0.2 h1 (by omega) (by omega) hneg
    · cases a4 with
      | true => exact law_plus a0 a1 k z w hw0.1 hw0.2 h1 (by omega) (by omega) hneg
      | false => exact law_none a0 a1 k z w hw0.1 hw0.2 h1 (by omega) (by omega) hneg

/-! ### THE ROW's STEP: WRITTEN OUT: LEAVE IT -/
set_option maxRecDepth 100000 in
theorem lifted (os : Os) (started : os.Started) (H : Type) (enc : TypeId × Value → H) :
    ReturnsInHanded {} Try.checked os 4 .any (Rows.fnParseExponentRoundTripSpec.pre6 enc Try.prog Try.f4 Rows.fnParseExponentRoundTripRow.domain false) (Rows.fnParseExponentRoundTripSpec.post enc Try.prog Try.f4 false true false false) := by
  refine returnsInHanded_of_change (C := Try.checked) own started (by kernel_rfl) Try.func4
    (ChangeSpec.witness6 (enc := enc) (C := Try.checked) false ⟨#[], #[.int .i64 0, .string ByteArray.empty, .int .i64 0, .int .i64 0, .bool false], []⟩ 8 (by kernel_rfl) (by kernel_rfl) (by kernel_rfl) (by kernel_rfl)) ?_
  intro W base args ds gs before hval0 hW hcnd _
  have hval : ∀ (j : Nat) t v, Try.f4.params[j]? = some t → args[j]? = some v → Value.okWide Try.prog W .any base t v := hval0
  have hW' := hW
  obtain ⟨p, q, hA0, hV, rfl, hfz, hnd⟩ := hW
  have hA : DataW.TrodAll enc Try.prog W 0 (fun _ => true) true Try.f4.params.toList args.toList ds p := hA0
  rw [Try.params4] at hA hval
  obtain ⟨v0, vs0, d0, ds0, p0, q0, hargs, rfl, rfl, h0, r0⟩ := trodAll_cons hA
  obtain ⟨v1, vs1, d1, ds1, p1, q1, rfl, rfl, rfl, h1, r1⟩ := trodAll_cons r0
  obtain ⟨v2, vs2, d2, ds2, p2, q2, rfl, rfl, rfl, h2, r2⟩ := trodAll_cons r1
  obtain ⟨v3, vs3, d3, ds3, p3, q3, rfl, rfl, rfl, h3, r3⟩ := trodAll_cons r2
  obtain ⟨v4, vs4, d4, ds4, p4, q4, rfl, rfl, rfl, h4, r4⟩ := trodAll_cons r3
  obtain ⟨rfl, rfl, rfl⟩ := trodAll_nil r4
  obtain rfl : args = #[v0, v1, v2, v3, v4] := by cases args; simp_all
  obtain ⟨rfl, rfl⟩ := trodVars_none hV
  obtain ⟨a0, rfl, rfl, rfl, w0⟩ := open_int Try.underlying3 (hval 0 3 v0 rfl rfl) h0
  obtain ⟨a1, rfl, rfl, rfl, w1⟩ := open_string Try.underlying9 (hval 1 9 v1 rfl rfl) h1
  obtain ⟨a2, rfl, rfl, rfl, w2⟩ := open_int Try.underlying3 (hval 2 3 v2 rfl rfl) h2
  obtain ⟨a3, rfl, rfl, rfl, w3⟩ := open_int Try.underlying3 (hval 3 3 v3 rfl rfl) h3
  obtain ⟨a4, rfl, rfl, rfl⟩ := open_bool Try.underlying4 (hval 4 4 v4 rfl rfl) h4
  clear hA0 hval0
  simp only [List.append_nil] at hW'
  refine (walk a0 a1 a2 a3 a4 w0 w1 w2 w3 W).mono fun e W' ⟨he, bel⟩ => ?_
  subst he
  exact ⟨_, rfl, _, _, _, [], _, [], hW', trodAll_mk1 (shut_bool Try.underlying4 _), (trodAll_cons_mk (shut_int Try.underlying3 w0) (trodAll_cons_mk (shut_string Try.underlying9 w1) (trodAll_cons_mk (shut_int Try.underlying3 w2) (trodAll_cons_mk (shut_int Try.underlying3 w3) (trodAll_cons_mk (shut_bool Try.underlying4 _) trodAll_mk0))))), rfl, bel.frame _, fun h => by cases h⟩

theorem over : Rows.fnParseExponentRoundTripRow.holds Try.pinned (OpenSpec.ofChange Rows.fnParseExponentRoundTripSpec) :=
  OpenClaim.holds_of_wide 4 Try.f4 rfl rfl rfl rfl rfl rfl rfl ⟨rfl, rfl, rfl, rfl, rfl⟩ rfl rfl rfl rfl rfl (by kernel_rfl) Try.func4 (by kernel_rfl)
    (of_decide_eq_true (by kernel_rfl)) (by unfold Func.isWrapper; first | (rw [if_pos (by decide +kernel)]; kernel_rfl) | (rw [if_neg (by decide +kernel)]; exact ⟨rfl, rfl⟩))
    (fun os started H enc _ => lifted os started H enc)

/-- ████ THE STATEMENT ████ -/
theorem proved : Rows.FnParseExponentRoundTripSaid :=
  over
end Go.Proofs.Qxb6600543a.fnParseExponentRoundTrip
