import Derived.Test.Qxb6600803aWalkC
namespace Go.Proofs.Qxb6600803a
open Go.RowKit Tm
set_option linter.unusedVariables false
set_option linter.unusedSimpArgs false

set_option maxRecDepth 100000 in
set_option maxHeartbeats 1000000 in
theorem pt7 (s a b d d1 d2 d3 : ByteArray) (h m c f : Int) (w : World) (hh0 : 0 ≤ h) (hh : h ≤ 23) (hm0 : 0 ≤ m) (hm : m ≤ 59) (hc0 : 0 ≤ c) (hc : c ≤ 60) (hf0 : 0 ≤ f) (hf : f ≤ 999999999) (HF : FldC s 58 a b d 3) (HD : DigC a 2 h) (HD2 : DigC b 2 m) (HC : CutY d ⟨#[46]⟩ d1 d2) (HD3 : DigC d1 2 c) (hd2 : d2.size ≤ 9) (hd20 : d2.toList.isEmpty = false) (hd3 : (d2 ++ ⟨#[48, 48, 48, 48, 48, 48, 48, 48, 48]⟩).extract 0 9 = d3) (HD4 : DigC d3 9 f) :
    Calls Try.prog 18 #[.string s] w fun e w' => e = .returned (.tuple #[Tv 6 h m (c * 1000000000 + f), .bool true]) ∧ Below w.heap.size w w' := by
  have x0 := ix0
  have x1 := ix1
  have x2 := ix2
  have hb0 : Below w.heap.size w ((((w.alloc (.cells #[(.int .u8 0), (.int .i64 0), (.int .i64 0), (.int .i64 0), (.int .i64 0), (.int .i64 0), (.int .i64 0), (.int .i64 0), (.bool false), (.int .i64 0)] 38)).alloc (.cells #[(.int .u8 7), (.int .i64 3), (.int .i64 0), (.int .i64 0), (.int .i64 0), (.int .i64 0), (.int .i64 0), (.int .i64 0), (.bool false), (.int .i64 0)] 38)).alloc (P3 a b d)).alloc (.cells #[.string a, .string b, .string d] 47)) := (((((Below.refl _ _).alloc (Nat.le_refl _) _).alloc (by simp) _).alloc (by simp; omega) _).alloc (by simp; omega) _)
  have hR0 : ((((w.alloc (.cells #[(.int .u8 0), (.int .i64 0), (.int .i64 0), (.int .i64 0), (.int .i64 0), (.int .i64 0), (.int .i64 0), (.int .i64 0), (.bool false), (.int .i64 0)] 38)).alloc (.cells #[(.int .u8 7), (.int .i64 3), (.int .i64 0), (.int .i64 0), (.int .i64 0), (.int .i64 0), (.int .i64 0), (.int .i64 0), (.bool false), (.int .i64 0)] 38)).alloc (P3 a b d)).alloc (.cells #[.string a, .string b, .string d] 47)).rowIs w.heap.size 38 10 (vec10 (.int .u8 0) (.int .i64 0) (.int .i64 0) (.int .i64 0) (.int .i64 0) (.int .i64 0) (.int .i64 0) (.int .i64 0) (.bool false) (.int .i64 0)) := (((row10_alloc w (.int .u8 0) (.int .i64 0) (.int .i64 0) (.int .i64 0) (.int .i64 0) (.int .i64 0) (.int .i64 0) (.int .i64 0) (.bool false) (.int .i64 0) 38).alloc _).alloc _).alloc _
  have hT0 : ((((w.alloc (.cells #[(.int .u8 0), (.int .i64 0), (.int .i64 0), (.int .i64 0), (.int .i64 0), (.int .i64 0), (.int .i64 0), (.int .i64 0), (.bool false), (.int .i64 0)] 38)).alloc (.cells #[(.int .u8 7), (.int .i64 3), (.int .i64 0), (.int .i64 0), (.int .i64 0), (.int .i64 0), (.int .i64 0), (.int .i64 0), (.bool false), (.int .i64 0)] 38)).alloc (P3 a b d)).alloc (.cells #[.string a, .string b, .string d] 47)).rowIs (w.heap.size + 1) 38 10 (vec10 (.int .u8 7) (.int .i64 3) (.int .i64 0) (.int .i64 0) (.int .i64 0) (.int .i64 0) (.int .i64 0) (.int .i64 0) (.bool false) (.int .i64 0)) := by
    have h := ((row10_alloc (w.alloc (.cells #[(.int .u8 0), (.int .i64 0), (.int .i64 0), (.int .i64 0), (.int .i64 0), (.int .i64 0), (.int .i64 0), (.int .i64 0), (.bool false), (.int .i64 0)] 38)) (.int .u8 7) (.int .i64 3) (.int .i64 0) (.int .i64 0) (.int .i64 0) (.int .i64 0) (.int .i64 0) (.int .i64 0) (.bool false) (.int .i64 0) 38).alloc (P3 a b d)).alloc (.cells #[.string a, .string b, .string d] 47)
    simpa using h
  have hP0 : ((((w.alloc (.cells #[(.int .u8 0), (.int .i64 0), (.int .i64 0), (.int .i64 0), (.int .i64 0), (.int .i64 0), (.int .i64 0), (.int .i64 0), (.bool false), (.int .i64 0)] 38)).alloc (.cells #[(.int .u8 7), (.int .i64 3), (.int .i64 0), (.int .i64 0), (.int .i64 0), (.int .i64 0), (.int .i64 0), (.int .i64 0), (.bool false), (.int .i64 0)] 38)).alloc (P3 a b d)).alloc (.cells #[.string a, .string b, .string d] 47)).rowIs (w.heap.size + 1 + 1 + 1) 47 3 (vec3 (.string a) (.string b) (.string d)) := by
    have h := row3_alloc (((w.alloc (.cells #[(.int .u8 0), (.int .i64 0), (.int .i64 0), (.int .i64 0), (.int .i64 0), (.int .i64 0), (.int .i64 0), (.int .i64 0), (.bool false), (.int .i64 0)] 38)).alloc (.cells #[(.int .u8 7), (.int .i64 3), (.int .i64 0), (.int .i64 0), (.int .i64 0), (.int .i64 0), (.int .i64 0), (.int .i64 0), (.bool false), (.int .i64 0)] 38)).alloc (P3 a b d)) (.string a) (.string b) (.string d) 47
    simpa using h
  have HB := hidd hb0
  have HR := hidd hR0
  have HT := hidd hT0
  have HP := hidd hP0
  clear hb0 hR0 hT0 hP0
  go_enter Try.func18, Try.ntmps18
  go_wp2_with fail
  refine (HF _).mono ?_
  rintro e w1 ⟨rfl, rfl⟩
  go_wp2_with fail
  refine wp_loop_rounds 4 ?_
  rw [rounds_succ]
  go_wp2_with fail
  refine (HD _).mono ?_
  rintro e w2 ⟨rfl, hb⟩
  have hR := row_below HR.out hb
  have hT := row_below HT.out hb
  have hP := row_below HP.out hb
  have hB : Below w.heap.size w w2 := HB.out.trans (hb.mono HB.out.size)
  clear hb HR HT HP HB
  have HR := hidd hR
  have HT := hidd hT
  have HP := hidd hP
  have HB := hidd hB
  obtain ⟨rr0, rr1, rr2, rr3, rr4, rr5, rr6, rr7, rr8, rr9, rrf⟩ := facts10 hR
  obtain ⟨tt0, tt1, tt2, tt3, tt4, tt5, tt6, tt7, tt8, tt9, ttf⟩ := facts10 hT
  obtain ⟨pp0, pp1, pp2, ppf⟩ := facts3 hP
  clear hR hT hP hB
  go_wp2_with fail
  have HT' := hidd (set10_5 (.int .i64 h) (set10_1 (.int .i64 4) HT.out))
  have HR' := hidd ((HR.out.setOther (a := ⟨w.heap.size + 1, 1, none⟩) (by simp) (.int .i64 4)).setOther (a := ⟨w.heap.size + 1, 5, none⟩) (by simp) (.int .i64 h))
  have HP' := hidd ((HP.out.setOther (a := ⟨w.heap.size + 1, 1, none⟩) (by simp <;> omega) (.int .i64 4)).setOther (a := ⟨w.heap.size + 1, 5, none⟩) (by simp <;> omega) (.int .i64 h))
  have HB' := hidd ((HB.out.setCell (p := ⟨w.heap.size + 1, 1, none⟩) (by simp) (.int .i64 4)).setCell (p := ⟨w.heap.size + 1, 5, none⟩) (by simp) (.int .i64 h))
  clear HT HR HP HB
  have HT := HT'
  have HR := HR'
  have HP := HP'
  have HB := HB'
  clear HT' HR' HP' HB'
  rw [rounds_succ]
  go_wp2_with fail
  refine (HD2 _).mono ?_
  rintro e w3 ⟨rfl, hb⟩
  have hR := row_below HR.out hb
  have hT := row_below HT.out hb
  have hP := row_below HP.out hb
  have hB : Below w.heap.size w w3 := HB.out.trans (hb.mono HB.out.size)
  clear hb HR HT HP HB
  have HR := hidd hR
  have HT := hidd hT
  have HP := hidd hP
  have HB := hidd hB
  obtain ⟨rr0, rr1, rr2, rr3, rr4, rr5, rr6, rr7, rr8, rr9, rrf⟩ := facts10 hR
  obtain ⟨tt0, tt1, tt2, tt3, tt4, tt5, tt6, tt7, tt8, tt9, ttf⟩ := facts10 hT
  obtain ⟨pp0, pp1, pp2, ppf⟩ := facts3 hP
  clear hR hT hP hB
  go_wp2_with fail
  have HT' := hidd (set10_6 (.int .i64 m) (set10_1 (.int .i64 5) HT.out))
  have HR' := hidd ((HR.out.setOther (a := ⟨w.heap.size + 1, 1, none⟩) (by simp) (.int .i64 5)).setOther (a := ⟨w.heap.size + 1, 6, none⟩) (by simp) (.int .i64 m))
  have HP' := hidd ((HP.out.setOther (a := ⟨w.heap.size + 1, 1, none⟩) (by simp <;> omega) (.int .i64 5)).setOther (a := ⟨w.heap.size + 1, 6, none⟩) (by simp <;> omega) (.int .i64 m))
  have HB' := hidd ((HB.out.setCell (p := ⟨w.heap.size + 1, 1, none⟩) (by simp) (.int .i64 5)).setCell (p := ⟨w.heap.size + 1, 6, none⟩) (by simp) (.int .i64 m))
  clear HT HR HP HB
  have HT := HT'
  have HR := HR'
  have HP := HP'
  have HB := HB'
  clear HT' HR' HP' HB'
  rw [rounds_succ]
  go_wp2_with fail
  refine (HC _).mono ?_
  rintro e w4 ⟨rfl, qq, rfl⟩
  have HR' := hidd (row_drewN HR.out qq)
  have HT' := hidd (row_drewN HT.out qq)
  have HP' := hidd (row_drewN HP.out qq)
  have HB' := hidd (bel_drewN HB.out qq)
  clear HT HR HP HB
  have HT := HT'
  have HR := HR'
  have HP := HP'
  have HB := HB'
  clear HT' HR' HP' HB'
  go_wp2_with fail
  refine (HD3 _).mono ?_
  rintro e w5 ⟨rfl, hb⟩
  have hR := row_below HR.out hb
  have hT := row_below HT.out hb
  have hP := row_below HP.out hb
  have hB : Below w.heap.size w w5 := HB.out.trans (hb.mono HB.out.size)
  clear hb HR HT HP HB
  have HR := hidd hR
  have HT := hidd hT
  have HP := hidd hP
  have HB := hidd hB
  obtain ⟨rr0, rr1, rr2, rr3, rr4, rr5, rr6, rr7, rr8, rr9, rrf⟩ := facts10 hR
  obtain ⟨tt0, tt1, tt2, tt3, tt4, tt5, tt6, tt7, tt8, tt9, ttf⟩ := facts10 hT
  obtain ⟨pp0, pp1, pp2, ppf⟩ := facts3 hP
  clear hR hT hP hB
  go_wp2_with fail
  have HT' := hidd (set10_7 (.int .i64 (c * 1000000000)) (set10_1 (.int .i64 6) HT.out))
  have HR' := hidd ((HR.out.setOther (a := ⟨w.heap.size + 1, 1, none⟩) (by simp) (.int .i64 6)).setOther (a := ⟨w.heap.size + 1, 7, none⟩) (by simp) (.int .i64 (c * 1000000000)))
  have HP' := hidd ((HP.out.setOther (a := ⟨w.heap.size + 1, 1, none⟩) (by simp <;> omega) (.int .i64 6)).setOther (a := ⟨w.heap.size + 1, 7, none⟩) (by simp <;> omega) (.int .i64 (c * 1000000000)))
  have HB' := hidd ((HB.out.setCell (p := ⟨w.heap.size + 1, 1, none⟩) (by simp) (.int .i64 6)).setCell (p := ⟨w.heap.size + 1, 7, none⟩) (by simp) (.int .i64 (c * 1000000000)))
  clear HT HR HP HB
  have HT := HT'
  have HR := HR'
  have HP := HP'
  have HB := HB'
  clear HT' HR' HP' HB'
  refine (HD4 _).mono ?_
  rintro e w6 ⟨rfl, hb⟩
  have hR := row_below HR.out hb
  have hT := row_below HT.out hb
  have hP := row_below HP.out hb
  have hB : Below w.heap.size w w6 := HB.out.trans (hb.mono HB.out.size)
  clear hb HR HT HP HB
  have HR := hidd hR
  have HT := hidd hT
  have HP := hidd hP
  have HB := hidd hB
  obtain ⟨rr0, rr1, rr2, rr3, rr4, rr5, rr6, rr7, rr8, rr9, rrf⟩ := facts10 hR
  obtain ⟨tt0, tt1, tt2, tt3, tt4, tt5, tt6, tt7, tt8, tt9, ttf⟩ := facts10 hT
  obtain ⟨pp0, pp1, pp2, ppf⟩ := facts3 hP
  clear hR hT hP hB
  go_wp2_with fail
  have HT' := hidd (set10_7 (.int .i64 (c * 1000000000 + f)) HT.out)
  have HR' := hidd (HR.out.setOther (a := ⟨w.heap.size + 1, 7, none⟩) (by simp) (.int .i64 (c * 1000000000 + f)))
  have HP' := hidd (HP.out.setOther (a := ⟨w.heap.size + 1, 7, none⟩) (by simp <;> omega) (.int .i64 (c * 1000000000 + f)))
  have HB' := hidd (HB.out.setCell (p := ⟨w.heap.size + 1, 7, none⟩) (by simp) (.int .i64 (c * 1000000000 + f)))
  clear HT HR HP HB
  have HT := HT'
  have HR := HR'
  have HP := HP'
  have HB := HB'
  clear HT' HR' HP' HB'
  rw [rounds_succ]
  go_wp2_with fail
  refine bodyPost_ret (v := .tuple #[.agg #[(.int .u8 7), (.int .i64 6), (.int .i64 0), (.int .i64 0), (.int .i64 0), (.int .i64 h), (.int .i64 m), (.int .i64 (c * 1000000000 + f)), (.bool false), (.int .i64 0)], .bool true]) (by rw [results_cell_tmp rfl]; go_simp) rfl ⟨rfl, ?_⟩
  iterate 10 refine Below.setCell ?_ (by simp) _
  exact HB.out

end Go.Proofs.Qxb6600803a
