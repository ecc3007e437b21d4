/-
  THE SHELL OF A PROOF OF 'Rows.FnParseDateTimeRoundTripSaid' ('example.com/hearthpull/hearthpull/zzlaws_pkg_fhirpath_b1.FnParseDateTimeRoundTrip'), WRITTEN BY PROGRAM (proof-skeleton.mjs) off the guide's own print for that function.
  THE WALK IS FILLED; THE FRAME SAYS 'Below' WHERE THE TEMPLATE SAID 'Grown'. ALL ELSE IS THE GUIDE's TEMPLATE (howto/template/XProofs.lean) at this function's number and types: leave it.
-/
import Derived.Test.Qxb6600803aRows
import Derived.Test.Qxb6600803aWalkU
import Derived.Test.Qxb6600803aWalkW
import Derived.Test.Qxb6600803aWalkY
import Derived.Test.Qxb6600803aWalkZ
import Derived.Test.Qxb6600803aWalkX
import Derived.Test.Qxb6600803aWalkXA
import Derived.Test.Qxb6600803aWalkXB
import Derived.Test.Qxb6600803aWalkXC
import Derived.WalkKit
import Derived.ProofKit
import Derived.OpenShut
import Derived.ShutString
import Derived.ChangeOld
import Derived.Below
namespace Go.Proofs.Qxb6600803a.fnParseDateTimeRoundTrip
open Go.ChangeShapes Go.WideShapes Go.ChangeAt Go.RowKit
open Go.ChangeMaps (open_string shut_string)
set_option linter.unusedVariables false      -- a walk need not use every 'w<i>' (that an integer argument fits its kind)

theorem own : ownKnob Try.prog.godebug = none := by kernel_rfl

theorem w64 {x : Int} (h : (Lit.int .i64 x).wf = true) : -9223372036854775808 ≤ x ∧ x ≤ 9223372036854775807 := by
  have e1 : IntKind.i64.min = -9223372036854775808 := by decide
  have e2 : IntKind.i64.max = 9223372036854775807 := by decide
  simp [Lit.wf, e1, e2] at h
  omega

theorem zones4 (y mo d h m s nn : Nat) (mk : Bool) (zn o : Int) (w : World) (hy : y ≤ 9999) (hmo1 : 1 ≤ mo) (hmo2 : mo ≤ 12) (hd1 : 1 ≤ d) (hd2 : d ≤ 31) (hh : h ≤ 23) (hm : m ≤ 59) (hs : s ≤ 60) (hn : nn ≤ 999999999) (hdy : d ≤ dys y mo) (hzn1 : 0 ≤ zn) (hzn2 : zn ≤ 2) (ho1 : -899 ≤ o) (ho2 : o ≤ 899) (K : List Int) (ck : Ck K 4 h 0 0) (hK : CLK w.heap.size 4 h m s nn K) :
    Calls Try.prog 6 #[.int .i64 y, .int .i64 mo, .int .i64 d, .int .i64 h, .int .i64 m, .int .i64 s, .int .i64 nn, .int .i64 4, .bool mk, .int .i64 zn, .int .i64 o] w fun e w' => e = .returned (.bool true) ∧ Below w.heap.size w w' := by
  obtain rfl | rfl | rfl : zn = 0 ∨ zn = 1 ∨ zn = 2 := by omega
  · exact lawT40 y mo d h m s nn mk w hy hmo1 hmo2 hd1 hd2 hh hm hs hn hdy o ho1 ho2 K ck hK
  · exact lawT41 y mo d h m s nn mk w hy hmo1 hmo2 hd1 hd2 hh hm hs hn hdy o ho1 ho2 K ck hK
  · by_cases ho : 0 ≤ o
    · obtain ⟨O, rfl⟩ : ∃ O : Nat, o = O := ⟨o.toNat, by omega⟩
      exact lawT4p y mo d h m s nn mk w hy hmo1 hmo2 hd1 hd2 hh hm hs hn hdy O (by omega) K ck hK
    · obtain ⟨O, rfl⟩ : ∃ O : Nat, o = -(O : Int) := ⟨(-o).toNat, by omega⟩
      exact lawT4m y mo d h m s nn mk w hy hmo1 hmo2 hd1 hd2 hh hm hs hn hdy O (by omega) (by omega) K ck hK
theorem zones5 (y mo d h m s nn : Nat) (mk : Bool) (zn o : Int) (w : World) (hy : y ≤ 9999) (hmo1 : 1 ≤ mo) (hmo2 : mo ≤ 12) (hd1 : 1 ≤ d) (hd2 : d ≤ 31) (hh : h ≤ 23) (hm : m ≤ 59) (hs : s ≤ 60) (hn : nn ≤ 999999999) (hdy : d ≤ dys y mo) (hzn1 : 0 ≤ zn) (hzn2 : zn ≤ 2) (ho1 : -899 ≤ o) (ho2 : o ≤ 899) (K : List Int) (ck : Ck K 5 h m 0) (hK : CLK w.heap.size 5 h m s nn K) :
    Calls Try.prog 6 #[.int .i64 y, .int .i64 mo, .int .i64 d, .int .i64 h, .int .i64 m, .int .i64 s, .int .i64 nn, .int .i64 5, .bool mk, .int .i64 zn, .int .i64 o] w fun e w' => e = .returned (.bool true) ∧ Below w.heap.size w w' := by
  obtain rfl | rfl | rfl : zn = 0 ∨ zn = 1 ∨ zn = 2 := by omega
  · exact lawT50 y mo d h m s nn mk w hy hmo1 hmo2 hd1 hd2 hh hm hs hn hdy o ho1 ho2 K ck hK
  · exact lawT51 y mo d h m s nn mk w hy hmo1 hmo2 hd1 hd2 hh hm hs hn hdy o ho1 ho2 K ck hK
  · by_cases ho : 0 ≤ o
    · obtain ⟨O, rfl⟩ : ∃ O : Nat, o = O := ⟨o.toNat, by omega⟩
      exact lawT5p y mo d h m s nn mk w hy hmo1 hmo2 hd1 hd2 hh hm hs hn hdy O (by omega) K ck hK
    · obtain ⟨O, rfl⟩ : ∃ O : Nat, o = -(O : Int) := ⟨(-o).toNat, by omega⟩
      exact lawT5m y mo d h m s nn mk w hy hmo1 hmo2 hd1 hd2 hh hm hs hn hdy O (by omega) (by omega) K ck hK
theorem zones6 (y mo d h m s nn : Nat) (mk : Bool) (zn o : Int) (w : World) (hy : y ≤ 9999) (hmo1 : 1 ≤ mo) (hmo2 : mo ≤ 12) (hd1 : 1 ≤ d) (hd2 : d ≤ 31) (hh : h ≤ 23) (hm : m ≤ 59) (hs : s ≤ 60) (hn : nn ≤ 999999999) (hdy : d ≤ dys y mo) (hzn1 : 0 ≤ zn) (hzn2 : zn ≤ 2) (ho1 : -899 ≤ o) (ho2 : o ≤ 899) (K : List Int) (Y : Int) (hY : Y = (s : Int) * 1000000000 + nn) (ck : Ck K 6 h m Y) (hK : CLK w.heap.size 6 h m s nn K) :
    Calls Try.prog 6 #[.int .i64 y, .int .i64 mo, .int .i64 d, .int .i64 h, .int .i64 m, .int .i64 s, .int .i64 nn, .int .i64 6, .bool mk, .int .i64 zn, .int .i64 o] w fun e w' => e = .returned (.bool true) ∧ Below w.heap.size w w' := by
  obtain rfl | rfl | rfl : zn = 0 ∨ zn = 1 ∨ zn = 2 := by omega
  · exact lawT60 y mo d h m s nn mk w hy hmo1 hmo2 hd1 hd2 hh hm hs hn hdy o ho1 ho2 K Y hY ck hK
  · exact lawT61 y mo d h m s nn mk w hy hmo1 hmo2 hd1 hd2 hh hm hs hn hdy o ho1 ho2 K Y hY ck hK
  · by_cases ho : 0 ≤ o
    · obtain ⟨O, rfl⟩ : ∃ O : Nat, o = O := ⟨o.toNat, by omega⟩
      exact lawT6p y mo d h m s nn mk w hy hmo1 hmo2 hd1 hd2 hh hm hs hn hdy O (by omega) K Y hY ck hK
    · obtain ⟨O, rfl⟩ : ∃ O : Nat, o = -(O : Int) := ⟨(-o).toNat, by omega⟩
      exact lawT6m y mo d h m s nn mk w hy hmo1 hmo2 hd1 hd2 hh hm hs hn hdy O (by omega) (by omega) K Y hY ck hK

/-! ### STEP 1: THE WALK: the Go text returns true. 'Below w.heap.size w w'': nothing that was there has turned. Part the cases AHEAD of 'go_enter' where a test parts the walk; take each callee by a contract of your own. -/
theorem walk (a0 : Int) (a1 : Int) (a2 : Int) (a3 : Int) (a4 : Int) (a5 : Int) (a6 : Int) (a7 : Int) (a8 : Bool) (a9 : Int) (a10 : Int) (w0 : (Lit.int .i64 a0).wf = true) (w1 : (Lit.int .i64 a1).wf = true) (w2 : (Lit.int .i64 a2).wf = true) (w3 : (Lit.int .i64 a3).wf = true) (w4 : (Lit.int .i64 a4).wf = true) (w5 : (Lit.int .i64 a5).wf = true) (w6 : (Lit.int .i64 a6).wf = true) (w7 : (Lit.int .i64 a7).wf = true) (w9 : (Lit.int .i64 a9).wf = true) (w10 : (Lit.int .i64 a10).wf = true) (w : World) :
    Calls Try.prog 6 #[.int .i64 a0, .int .i64 a1, .int .i64 a2, .int .i64 a3, .int .i64 a4, .int .i64 a5, .int .i64 a6, .int .i64 a7, .bool a8, .int .i64 a9, .int .i64 a10] w fun e w' => e = .returned (.bool true) ∧ Below w.heap.size w w' := by
  have hw0 := w64 w0
  have hw1 := w64 w1
  have hw2 := w64 w2
  have hw3 := w64 w3
  have hw4 := w64 w4
  have hw5 := w64 w5
  have hw6 := w64 w6
  have hw7 := w64 w7
  have hw9 := w64 w9
  have hw10 := w64 w10
  rcases dt_e1 a0 a1 a2 a3 a4 a5 a6 a7 a8 a9 a10 w hw0 hw1 hw2 hw3 hw4 hw5 hw6 hw7 hw9 hw10 with r | ⟨h7, h0, h1, h2⟩
  · exact r
  obtain ⟨y, rfl⟩ : ∃ k : Nat, a0 = k := ⟨a0.toNat, by omega⟩
  obtain ⟨mo, rfl⟩ : ∃ k : Nat, a1 = k := ⟨a1.toNat, by omega⟩
  obtain ⟨d, rfl⟩ : ∃ k : Nat, a2 = k := ⟨a2.toNat, by omega⟩
  have hy : y ≤ 9999 := by omega
  have hmo1 : 1 ≤ mo := by omega
  have hmo2 : mo ≤ 12 := by omega
  have hd1 : 1 ≤ d := by omega
  have hd2 : d ≤ 31 := by omega
  rcases dt_e2 y mo d a3 a4 a5 a6 a7 a8 a9 a10 w hw3 hw4 hw5 hw6 hw7 hw9 hw10 hy hmo1 hmo2 hd1 hd2 h7.1 h7.2 with r | hq
  · exact r
  rcases dt_e3 y mo d a3 a4 a5 a6 a7 a8 a9 a10 w hw3 hw4 hw5 hw6 hw7 hw9 hw10 hy hmo1 hmo2 hd1 hd2 h7.1 h7.2 hq with r | ⟨h3, h4, h5, h6, h9, h10⟩
  · exact r
  obtain ⟨h, rfl⟩ : ∃ k : Nat, a3 = k := ⟨a3.toNat, by omega⟩
  obtain ⟨m, rfl⟩ : ∃ k : Nat, a4 = k := ⟨a4.toNat, by omega⟩
  obtain ⟨s, rfl⟩ : ∃ k : Nat, a5 = k := ⟨a5.toNat, by omega⟩
  obtain ⟨nn, rfl⟩ : ∃ k : Nat, a6 = k := ⟨a6.toNat, by omega⟩
  have hh : h ≤ 23 := by omega
  have hm : m ≤ 59 := by omega
  have hs : s ≤ 60 := by omega
  have hn : nn ≤ 999999999 := by omega
  have hdy : 3 ≤ a7 → d ≤ dys y mo := by
    intro h
    rcases hq with q | ⟨_, q⟩
    · simp at q
      omega
    · exact q
  obtain rfl | rfl | rfl | rfl | rfl | rfl : a7 = 1 ∨ a7 = 2 ∨ a7 = 3 ∨ a7 = 4 ∨ a7 = 5 ∨ a7 = 6 := by omega
  · cases a8
    · exact lawD1n y mo d h m s nn a9 a10 w hy hmo1 hmo2 hd1 hd2 hh hm hs hn h9.1 h9.2 h10.1 h10.2
    · exact lawD1m y mo d h m s nn a9 a10 w hy hmo1 hmo2 hd1 hd2 hh hm hs hn h9.1 h9.2 h10.1 h10.2
  · cases a8
    · exact lawD2n y mo d h m s nn a9 a10 w hy hmo1 hmo2 hd1 hd2 hh hm hs hn h9.1 h9.2 h10.1 h10.2
    · exact lawD2m y mo d h m s nn a9 a10 w hy hmo1 hmo2 hd1 hd2 hh hm hs hn h9.1 h9.2 h10.1 h10.2
  · have hdy' := hdy (by omega)
    cases a8
    · exact lawD3n y mo d h m s nn a9 a10 w hy hmo1 hmo2 hd1 hd2 hh hm hs hn h9.1 h9.2 h10.1 h10.2 hdy'
    · exact lawD3m y mo d h m s nn a9 a10 w hy hmo1 hmo2 hd1 hd2 hh hm hs hn h9.1 h9.2 h10.1 h10.2 hdy'
  · exact zones4 y mo d h m s nn a8 a9 a10 w hy hmo1 hmo2 hd1 hd2 hh hm hs hn (hdy (by omega)) h9.1 h9.2 h10.1 h10.2 (Tm.dgt 2 h) (Ck4 h hh) (CLK4 _ h m s nn hh hm hs hn)
  · exact zones5 y mo d h m s nn a8 a9 a10 w hy hmo1 hmo2 hd1 hd2 hh hm hs hn (hdy (by omega)) h9.1 h9.2 h10.1 h10.2 (C5 h m) (Ck5 h m hh hm) (CLK5 _ h m s nn hh hm hs hn)
  · by_cases hz : nn = 0
    · exact zones6 y mo d h m s nn a8 a9 a10 w hy hmo1 hmo2 hd1 hd2 hh hm hs hn (hdy (by omega)) h9.1 h9.2 h10.1 h10.2 (C6 h m s) ((s : Int) * 1000000000) (by omega) (Ck6 h m s hh hm hs) (CLK6 _ h m s nn hh hm hs hn hz)
    · exact zones6 y mo d h m s nn a8 a9 a10 w hy hmo1 hmo2 hd1 hd2 hh hm hs hn (hdy (by omega)) h9.1 h9.2 h10.1 h10.2 (C7 h m s nn) ((s : Int) * 1000000000 + nn) rfl (Ck7 h m s nn hh hm hs hn) (CLK7 _ h m s nn hh hm hs hn (by omega))

/-! ### THE ROW's STEP: WRITTEN OUT: LEAVE IT -/
set_option maxRecDepth 100000 in
theorem lifted (os : Os) (started : os.Started) (H : Type) (enc : TypeId × Value → H) :
    ReturnsInHanded {} Try.checked os 6 .any (Rows.fnParseDateTimeRoundTripSpec.pre6 enc Try.prog Try.f6 Rows.fnParseDateTimeRoundTripRow.domain false) (Rows.fnParseDateTimeRoundTripSpec.post enc Try.prog Try.f6 false true false false) := by
  refine returnsInHanded_of_change (C := Try.checked) own started (by kernel_rfl) Try.func6
    (ChangeSpec.witness6 (enc := enc) (C := Try.checked) false ⟨#[], #[.int .i64 0, .int .i64 0, .int .i64 0, .int .i64 0, .int .i64 0, .int .i64 0, .int .i64 0, .int .i64 0, .bool false, .int .i64 0, .int .i64 0], []⟩ 8 (by kernel_rfl) (by kernel_rfl) (by kernel_rfl) (by kernel_rfl)) ?_
  intro W base args ds gs before hval0 hW hcnd _
  have hval : ∀ (j : Nat) t v, Try.f6.params[j]? = some t → args[j]? = some v → Value.okWide Try.prog W .any base t v := hval0
  have hW' := hW
  obtain ⟨p, q, hA0, hV, rfl, hfz, hnd⟩ := hW
  have hA : DataW.TrodAll enc Try.prog W 0 (fun _ => true) true Try.f6.params.toList args.toList ds p := hA0
  rw [Try.params6] at hA hval
  obtain ⟨v0, vs0, d0, ds0, p0, q0, hargs, rfl, rfl, h0, r0⟩ := trodAll_cons hA
  obtain ⟨v1, vs1, d1, ds1, p1, q1, rfl, rfl, rfl, h1, r1⟩ := trodAll_cons r0
  obtain ⟨v2, vs2, d2, ds2, p2, q2, rfl, rfl, rfl, h2, r2⟩ := trodAll_cons r1
  obtain ⟨v3, vs3, d3, ds3, p3, q3, rfl, rfl, rfl, h3, r3⟩ := trodAll_cons r2
  obtain ⟨v4, vs4, d4, ds4, p4, q4, rfl, rfl, rfl, h4, r4⟩ := trodAll_cons r3
  obtain ⟨v5, vs5, d5, ds5, p5, q5, rfl, rfl, rfl, h5, r5⟩ := trodAll_cons r4
  obtain ⟨v6, vs6, d6, ds6, p6, q6, rfl, rfl, rfl, h6, r6⟩ := trodAll_cons r5
  obtain ⟨v7, vs7, d7, ds7, p7, q7, rfl, rfl, rfl, h7, r7⟩ := trodAll_cons r6
  obtain ⟨v8, vs8, d8, ds8, p8, q8, rfl, rfl, rfl, h8, r8⟩ := trodAll_cons r7
  obtain ⟨v9, vs9, d9, ds9, p9, q9, rfl, rfl, rfl, h9, r9⟩ := trodAll_cons r8
  obtain ⟨v10, vs10, d10, ds10, p10, q10, rfl, rfl, rfl, h10, r10⟩ := trodAll_cons r9
  obtain ⟨rfl, rfl, rfl⟩ := trodAll_nil r10
  obtain rfl : args = #[v0, v1, v2, v3, v4, v5, v6, v7, v8, v9, v10] := by cases args; simp_all
  obtain ⟨rfl, rfl⟩ := trodVars_none hV
  obtain ⟨a0, rfl, rfl, rfl, w0⟩ := open_int Try.underlying3 (hval 0 3 v0 rfl rfl) h0
  obtain ⟨a1, rfl, rfl, rfl, w1⟩ := open_int Try.underlying3 (hval 1 3 v1 rfl rfl) h1
  obtain ⟨a2, rfl, rfl, rfl, w2⟩ := open_int Try.underlying3 (hval 2 3 v2 rfl rfl) h2
  obtain ⟨a3, rfl, rfl, rfl, w3⟩ := open_int Try.underlying3 (hval 3 3 v3 rfl rfl) h3
  obtain ⟨a4, rfl, rfl, rfl, w4⟩ := open_int Try.underlying3 (hval 4 3 v4 rfl rfl) h4
  obtain ⟨a5, rfl, rfl, rfl, w5⟩ := open_int Try.underlying3 (hval 5 3 v5 rfl rfl) h5
  obtain ⟨a6, rfl, rfl, rfl, w6⟩ := open_int Try.underlying3 (hval 6 3 v6 rfl rfl) h6
  obtain ⟨a7, rfl, rfl, rfl, w7⟩ := open_int Try.underlying3 (hval 7 3 v7 rfl rfl) h7
  obtain ⟨a8, rfl, rfl, rfl⟩ := open_bool Try.underlying4 (hval 8 4 v8 rfl rfl) h8
  obtain ⟨a9, rfl, rfl, rfl, w9⟩ := open_int Try.underlying3 (hval 9 3 v9 rfl rfl) h9
  obtain ⟨a10, rfl, rfl, rfl, w10⟩ := open_int Try.underlying3 (hval 10 3 v10 rfl rfl) h10
  clear hA0 hval0
  simp only [List.append_nil] at hW'
  refine (walk a0 a1 a2 a3 a4 a5 a6 a7 a8 a9 a10 w0 w1 w2 w3 w4 w5 w6 w7 w9 w10 W).mono fun e W' ⟨he, bel⟩ => ?_
  subst he
  exact ⟨_, rfl, _, _, _, [], _, [], hW', trodAll_mk1 (shut_bool Try.underlying4 _), (trodAll_cons_mk (shut_int Try.underlying3 w0) (trodAll_cons_mk (shut_int Try.underlying3 w1) (trodAll_cons_mk (shut_int Try.underlying3 w2) (trodAll_cons_mk (shut_int Try.underlying3 w3) (trodAll_cons_mk (shut_int Try.underlying3 w4) (trodAll_cons_mk (shut_int Try.underlying3 w5) (trodAll_cons_mk (shut_int Try.underlying3 w6) (trodAll_cons_mk (shut_int Try.underlying3 w7) (trodAll_cons_mk (shut_bool Try.underlying4 _) (trodAll_cons_mk (shut_int Try.underlying3 w9) (trodAll_cons_mk (shut_int Try.underlying3 w10) trodAll_mk0))))))))))), rfl, bel.frame _, fun h => by cases h⟩

theorem over : Rows.fnParseDateTimeRoundTripRow.holds Try.pinned (OpenSpec.ofChange Rows.fnParseDateTimeRoundTripSpec) :=
  OpenClaim.holds_of_wide 6 Try.f6 rfl rfl rfl rfl rfl rfl rfl ⟨rfl, rfl, rfl, rfl, rfl⟩ rfl rfl rfl rfl rfl (by kernel_rfl) Try.func6 (by kernel_rfl)
    (of_decide_eq_true (by kernel_rfl)) (by unfold Func.isWrapper; first | (rw [if_pos (by decide +kernel)]; kernel_rfl) | (rw [if_neg (by decide +kernel)]; exact ⟨rfl, rfl⟩))
    (fun os started H enc _ => lifted os started H enc)

/-- ████ THE STATEMENT ████ -/
theorem proved : Rows.FnParseDateTimeRoundTripSaid :=
  over
end Go.Proofs.Qxb6600803a.fnParseDateTimeRoundTrip
