import Derived.Test.Qxb6600803aWalkN
namespace Go.Proofs.Qxb6600803a
open Go.RowKit Tm
set_option linter.unusedVariables false
set_option linter.unusedSimpArgs false

set_option maxRecDepth 100000 in
set_option maxHeartbeats 1600000 in
theorem pd1n (s : ByteArray) (y : Nat) (w : World) (hy : y ≤ 9999) (hsa : s.size = 4) (HC : CutN s ⟨#[84]⟩) (HF : FldC s 45 s ⟨#[]⟩ ⟨#[]⟩ 1) (HD1 : DigC s 4 y) :
    Calls Try.prog 22 #[.string s] w fun e w' => e = .returned (.tuple #[Uv 5 1 y 0 0 0 0 0 false 0, .bool true]) ∧ Below w.heap.size w w' := by
  go_enter Try.func22, Try.ntmps22
  go_wp2_with fail
  refine (HC _).mono ?_
  rintro e w1 ⟨rfl, rfl⟩
  have D0 := hidd (DR.start w (DX w) 0 rfl s ⟨#[]⟩ ⟨#[]⟩)
  go_wp2_with fail
  refine (HF _).mono ?_
  rintro e w1 ⟨rfl, rfl⟩
  go_wp2_with fail
  refine wp_loop_rounds 2 ?_
  rw [rounds_succ]
  go_wp2_with fail
  refine (HD1 _).mono ?_
  rintro e w2 ⟨rfl, hb⟩
  have hD := D0.out.below hb
  have E0 := hidd hD
  obtain ⟨⟨tt0, tt1, tt2, tt3, tt4, tt5, tt6, tt7, tt8, tt9, ttf⟩, ⟨rr0, rr1, rr2, rr3, rr4, rr5, rr6, rr7, rr8, rr9, rrf⟩, ⟨pp0, pp1, pp2⟩, ⟨ll0, ll1, ll2, ll3, ll4, ll5⟩, ⟨vv0, vv1, vv2⟩⟩ := hD.facts
  clear hb hD D0
  go_wp2_with fail
  have hD := (E0.out.set2 (.int .i64 y)).set1 (.int .i64 1)
  obtain ⟨wz, hwz⟩ : ∃ wz, wz = (w2.setCell ⟨w.heap.size + 1, 2, none⟩ (.int .i64 y)).setCell ⟨w.heap.size + 1, 1, none⟩ (.int .i64 1) := ⟨_, rfl⟩
  rw [← hwz] at hD ⊢
  clear hwz E0
  have D1 := hidd hD
  clear tt0 tt1 tt2 tt3 tt4 tt5 tt6 tt7 tt8 tt9 ttf rr0 rr1 rr2 rr3 rr4 rr5 rr6 rr7 rr8 rr9 rrf pp0 pp1 pp2 ll0 ll1 ll2 ll3 ll4 ll5 vv0 vv1 vv2
  obtain ⟨⟨tt0, tt1, tt2, tt3, tt4, tt5, tt6, tt7, tt8, tt9, ttf⟩, ⟨rr0, rr1, rr2, rr3, rr4, rr5, rr6, rr7, rr8, rr9, rrf⟩, ⟨pp0, pp1, pp2⟩, ⟨ll0, ll1, ll2, ll3, ll4, ll5⟩, ⟨vv0, vv1, vv2⟩⟩ := hD.facts
  clear hD w2
  rename World => w2
  rw [rounds_succ]
  go_wp2_with fail
  go_quiet (fail)
  go_wp2_with fail
  refine bodyPost_ret (v := .tuple #[.agg #[(.int .u8 5), (.int .i64 1), (.int .i64 y), (.int .i64 0), (.int .i64 0), (.int .i64 0), (.int .i64 0), (.int .i64 0), (.bool false), (.int .i64 0)], .bool true]) (by rw [results_cell_tmp rfl]; go_simp) rfl ⟨rfl, ?_⟩
  iterate 10 refine Below.setCell ?_ (by simp) _
  exact bel_drewN D1.out.B _

set_option maxRecDepth 100000 in
set_option maxHeartbeats 1600000 in
theorem pd1m (s D : ByteArray) (y : Nat) (w : World) (hy : y ≤ 9999) (hsa : D.size = 4) (HC : CutY s ⟨#[84]⟩ D ⟨#[]⟩) (HF : FldC D 45 D ⟨#[]⟩ ⟨#[]⟩ 1) (HD1 : DigC D 4 y) :
    Calls Try.prog 22 #[.string s] w fun e w' => e = .returned (.tuple #[Uv 6 1 y 0 0 0 0 0 false 0, .bool true]) ∧ Below w.heap.size w w' := by
  go_enter Try.func22, Try.ntmps22
  go_wp2_with fail
  refine (HC _).mono ?_
  rintro e w1 ⟨rfl, q, rfl⟩
  have D0 := hidd (DR.start w ((DX w).drewN q) q rfl D ⟨#[]⟩ ⟨#[]⟩)
  go_wp2_with fail
  refine (HF _).mono ?_
  rintro e w1 ⟨rfl, rfl⟩
  go_wp2_with fail
  refine wp_loop_rounds 2 ?_
  rw [rounds_succ]
  go_wp2_with fail
  refine (HD1 _).mono ?_
  rintro e w2 ⟨rfl, hb⟩
  have hD := D0.out.below hb
  have E0 := hidd hD
  obtain ⟨⟨tt0, tt1, tt2, tt3, tt4, tt5, tt6, tt7, tt8, tt9, ttf⟩, ⟨rr0, rr1, rr2, rr3, rr4, rr5, rr6, rr7, rr8, rr9, rrf⟩, ⟨pp0, pp1, pp2⟩, ⟨ll0, ll1, ll2, ll3, ll4, ll5⟩, ⟨vv0, vv1, vv2⟩⟩ := hD.facts
  clear hb hD D0
  go_wp2_with fail
  have hD := (E0.out.set2 (.int .i64 y)).set1 (.int .i64 1)
  obtain ⟨wz, hwz⟩ : ∃ wz, wz = (w2.setCell ⟨w.heap.size + 1, 2, none⟩ (.int .i64 y)).setCell ⟨w.heap.size + 1, 1, none⟩ (.int .i64 1) := ⟨_, rfl⟩
  rw [← hwz] at hD ⊢
  clear hwz E0
  have D1 := hidd hD
  clear tt0 tt1 tt2 tt3 tt4 tt5 tt6 tt7 tt8 tt9 ttf rr0 rr1 rr2 rr3 rr4 rr5 rr6 rr7 rr8 rr9 rrf pp0 pp1 pp2 ll0 ll1 ll2 ll3 ll4 ll5 vv0 vv1 vv2
  obtain ⟨⟨tt0, tt1, tt2, tt3, tt4, tt5, tt6, tt7, tt8, tt9, ttf⟩, ⟨rr0, rr1, rr2, rr3, rr4, rr5, rr6, rr7, rr8, rr9, rrf⟩, ⟨pp0, pp1, pp2⟩, ⟨ll0, ll1, ll2, ll3, ll4, ll5⟩, ⟨vv0, vv1, vv2⟩⟩ := hD.facts
  clear hD w2
  rename World => w2
  rw [rounds_succ]
  go_wp2_with fail
  go_quiet (fail)
  go_wp2_with fail
  refine bodyPost_ret (v := .tuple #[.agg #[(.int .u8 6), (.int .i64 1), (.int .i64 y), (.int .i64 0), (.int .i64 0), (.int .i64 0), (.int .i64 0), (.int .i64 0), (.bool false), (.int .i64 0)], .bool true]) (by rw [results_cell_tmp rfl]; go_simp) rfl ⟨rfl, ?_⟩
  iterate 11 refine Below.setCell ?_ (by simp) _
  exact bel_drewN D1.out.B _

set_option maxRecDepth 100000 in
set_option maxHeartbeats 1600000 in
theorem pd2n (s a b : ByteArray) (y mo : Nat) (w : World) (hy : y ≤ 9999) (hm1 : 1 ≤ mo) (hm2 : mo ≤ 12) (hsa : a.size = 4) (hsb : b.size = 2) (HC : CutN s ⟨#[84]⟩) (HF : FldC s 45 a b ⟨#[]⟩ 2) (HD1 : DigC a 4 y) (HD2 : DigC b 2 mo) :
    Calls Try.prog 22 #[.string s] w fun e w' => e = .returned (.tuple #[Uv 5 2 y mo 0 0 0 0 false 0, .bool true]) ∧ Below w.heap.size w w' := by
  go_enter Try.func22, Try.ntmps22
  go_wp2_with fail
  refine (HC _).mono ?_
  rintro e w1 ⟨rfl, rfl⟩
  have D0 := hidd (DR.start w (DX w) 0 rfl a b ⟨#[]⟩)
  go_wp2_with fail
  refine (HF _).mono ?_
  rintro e w1 ⟨rfl, rfl⟩
  go_wp2_with fail
  refine wp_loop_rounds 3 ?_
  rw [rounds_succ]
  go_wp2_with fail
  refine (HD1 _).mono ?_
  rintro e w2 ⟨rfl, hb⟩
  have hD := D0.out.below hb
  have E0 := hidd hD
  obtain ⟨⟨tt0, tt1, tt2, tt3, tt4, tt5, tt6, tt7, tt8, tt9, ttf⟩, ⟨rr0, rr1, rr2, rr3, rr4, rr5, rr6, rr7, rr8, rr9, rrf⟩, ⟨pp0, pp1, pp2⟩, ⟨ll0, ll1, ll2, ll3, ll4, ll5⟩, ⟨vv0, vv1, vv2⟩⟩ := hD.facts
  clear hb hD D0
  go_wp2_with fail
  have hD := (E0.out.set2 (.int .i64 y)).set1 (.int .i64 1)
  obtain ⟨wz, hwz⟩ : ∃ wz, wz = (w2.setCell ⟨w.heap.size + 1, 2, none⟩ (.int .i64 y)).setCell ⟨w.heap.size + 1, 1, none⟩ (.int .i64 1) := ⟨_, rfl⟩
  rw [← hwz] at hD ⊢
  clear hwz E0
  have D1 := hidd hD
  clear tt0 tt1 tt2 tt3 tt4 tt5 tt6 tt7 tt8 tt9 ttf rr0 rr1 rr2 rr3 rr4 rr5 rr6 rr7 rr8 rr9 rrf pp0 pp1 pp2 ll0 ll1 ll2 ll3 ll4 ll5 vv0 vv1 vv2
  obtain ⟨⟨tt0, tt1, tt2, tt3, tt4, tt5, tt6, tt7, tt8, tt9, ttf⟩, ⟨rr0, rr1, rr2, rr3, rr4, rr5, rr6, rr7, rr8, rr9, rrf⟩, ⟨pp0, pp1, pp2⟩, ⟨ll0, ll1, ll2, ll3, ll4, ll5⟩, ⟨vv0, vv1, vv2⟩⟩ := hD.facts
  clear hD w2
  rename World => w2
  rw [rounds_succ]
  go_wp2_with fail
  refine (HD2 _).mono ?_
  rintro e w2 ⟨rfl, hb⟩
  have hD := D1.out.below hb
  have E1 := hidd hD
  clear tt0 tt1 tt2 tt3 tt4 tt5 tt6 tt7 tt8 tt9 ttf rr0 rr1 rr2 rr3 rr4 rr5 rr6 rr7 rr8 rr9 rrf pp0 pp1 pp2 ll0 ll1 ll2 ll3 ll4 ll5 vv0 vv1 vv2
  obtain ⟨⟨tt0, tt1, tt2, tt3, tt4, tt5, tt6, tt7, tt8, tt9, ttf⟩, ⟨rr0, rr1, rr2, rr3, rr4, rr5, rr6, rr7, rr8, rr9, rrf⟩, ⟨pp0, pp1, pp2⟩, ⟨ll0, ll1, ll2, ll3, ll4, ll5⟩, ⟨vv0, vv1, vv2⟩⟩ := hD.facts
  clear hb hD D1
  go_wp2_with fail
  have hD := (E1.out.set3 (.int .i64 mo)).set1 (.int .i64 2)
  obtain ⟨wz, hwz⟩ : ∃ wz, wz = (w2.setCell ⟨w.heap.size + 1, 3, none⟩ (.int .i64 mo)).setCell ⟨w.heap.size + 1, 1, none⟩ (.int .i64 2) := ⟨_, rfl⟩
  rw [← hwz] at hD ⊢
  clear hwz E1
  have D2 := hidd hD
  clear tt0 tt1 tt2 tt3 tt4 tt5 tt6 tt7 tt8 tt9 ttf rr0 rr1 rr2 rr3 rr4 rr5 rr6 rr7 rr8 rr9 rrf pp0 pp1 pp2 ll0 ll1 ll2 ll3 ll4 ll5 vv0 vv1 vv2
  obtain ⟨⟨tt0, tt1, tt2, tt3, tt4, tt5, tt6, tt7, tt8, tt9, ttf⟩, ⟨rr0, rr1, rr2, rr3, rr4, rr5, rr6, rr7, rr8, rr9, rrf⟩, ⟨pp0, pp1, pp2⟩, ⟨ll0, ll1, ll2, ll3, ll4, ll5⟩, ⟨vv0, vv1, vv2⟩⟩ := hD.facts
  clear hD w2
  rename World => w2
  rw [rounds_succ]
  go_wp2_with fail
  go_quiet (fail)
  go_wp2_with fail
  refine bodyPost_ret (v := .tuple #[.agg #[(.int .u8 5), (.int .i64 2), (.int .i64 y), (.int .i64 mo), (.int .i64 0), (.int .i64 0), (.int .i64 0), (.int .i64 0), (.bool false), (.int .i64 0)], .bool true]) (by rw [results_cell_tmp rfl]; go_simp) rfl ⟨rfl, ?_⟩
  iterate 10 refine Below.setCell ?_ (by simp) _
  exact bel_drewN D2.out.B _

set_option maxRecDepth 100000 in
set_option maxHeartbeats 1600000 in
theorem pd2m (s D a b : ByteArray) (y mo : Nat) (w : World) (hy : y ≤ 9999) (hm1 : 1 ≤ mo) (hm2 : mo ≤ 12) (hsa : a.size = 4) (hsb : b.size = 2) (HC : CutY s ⟨#[84]⟩ D ⟨#[]⟩) (HF : FldC D 45 a b ⟨#[]⟩ 2) (HD1 : DigC a 4 y) (HD2 : DigC b 2 mo) :
    Calls Try.prog 22 #[.string s] w fun e w' => e = .returned (.tuple #[Uv 6 2 y mo 0 0 0 0 false 0, .bool true]) ∧ Below w.heap.size w w' := by
  go_enter Try.func22, Try.ntmps22
  go_wp2_with fail
  refine (HC _).mono ?_
  rintro e w1 ⟨rfl, q, rfl⟩
  have D0 := hidd (DR.start w ((DX w).drewN q) q rfl a b ⟨#[]⟩)
  go_wp2_with fail
  refine (HF _).mono ?_
  rintro e w1 ⟨rfl, rfl⟩
  go_wp2_with fail
  refine wp_loop_rounds 3 ?_
  rw [rounds_succ]
  go_wp2_with fail
  refine (HD1 _).mono ?_
  rintro e w2 ⟨rfl, hb⟩
  have hD := D0.out.below hb
  have E0 := hidd hD
  obtain ⟨⟨tt0, tt1, tt2, tt3, tt4, tt5, tt6, tt7, tt8, tt9, ttf⟩, ⟨rr0, rr1, rr2, rr3, rr4, rr5, rr6, rr7, rr8, rr9, rrf⟩, ⟨pp0, pp1, pp2⟩, ⟨ll0, ll1, ll2, ll3, ll4, ll5⟩, ⟨vv0, vv1, vv2⟩⟩ := hD.facts
  clear hb hD D0
  go_wp2_with fail
  have hD := (E0.out.set2 (.int .i64 y)).set1 (.int .i64 1)
  obtain ⟨wz, hwz⟩ : ∃ wz, wz = (w2.setCell ⟨w.heap.size + 1, 2, none⟩ (.int .i64 y)).setCell ⟨w.heap.size + 1, 1, none⟩ (.int .i64 1) := ⟨_, rfl⟩
  rw [← hwz] at hD ⊢
  clear hwz E0
  have D1 := hidd hD
  clear tt0 tt1 tt2 tt3 tt4 tt5 tt6 tt7 tt8 tt9 ttf rr0 rr1 rr2 rr3 rr4 rr5 rr6 rr7 rr8 rr9 rrf pp0 pp1 pp2 ll0 ll1 ll2 ll3 ll4 ll5 vv0 vv1 vv2
  obtain ⟨⟨tt0, tt1, tt2, tt3, tt4, tt5, tt6, tt7, tt8, tt9, ttf⟩, ⟨rr0, rr1, rr2, rr3, rr4, rr5, rr6, rr7, rr8, rr9, rrf⟩, ⟨pp0, pp1, pp2⟩, ⟨ll0, ll1, ll2, ll3, ll4, ll5⟩, ⟨vv0, vv1, vv2⟩⟩ := hD.facts
  clear hD w2
  rename World => w2
  rw [rounds_succ]
  go_wp2_with fail
  refine (HD2 _).mono ?_
  rintro e w2 ⟨rfl, hb⟩
  have hD := D1.out.below hb
  have E1 := hidd hD
  clear tt0 tt1 tt2 tt3 tt4 tt5 tt6 tt7 tt8 tt9 ttf rr0 rr1 rr2 rr3 rr4 rr5 rr6 rr7 rr8 rr9 rrf pp0 pp1 pp2 ll0 ll1 ll2 ll3 ll4 ll5 vv0 vv1 vv2
  obtain ⟨⟨tt0, tt1, tt2, tt3, tt4, tt5, tt6, tt7, tt8, tt9, ttf⟩, ⟨rr0, rr1, rr2, rr3, rr4, rr5, rr6, rr7, rr8, rr9, rrf⟩, ⟨pp0, pp1, pp2⟩, ⟨ll0, ll1, ll2, ll3, ll4, ll5⟩, ⟨vv0, vv1, vv2⟩⟩ := hD.facts
  clear hb hD D1
  go_wp2_with fail
  have hD := (E1.out.set3 (.int .i64 mo)).set1 (.int .i64 2)
  obtain ⟨wz, hwz⟩ : ∃ wz, wz = (w2.setCell ⟨w.heap.size + 1, 3, none⟩ (.int .i64 mo)).setCell ⟨w.heap.size + 1, 1, none⟩ (.int .i64 2) := ⟨_, rfl⟩
  rw [← hwz] at hD ⊢
  clear hwz E1
  have D2 := hidd hD
  clear tt0 tt1 tt2 tt3 tt4 tt5 tt6 tt7 tt8 tt9 ttf rr0 rr1 rr2 rr3 rr4 rr5 rr6 rr7 rr8 rr9 rrf pp0 pp1 pp2 ll0 ll1 ll2 ll3 ll4 ll5 vv0 vv1 vv2
  obtain ⟨⟨tt0, tt1, tt2, tt3, tt4, tt5, tt6, tt7, tt8, tt9, ttf⟩, ⟨rr0, rr1, rr2, rr3, rr4, rr5, rr6, rr7, rr8, rr9, rrf⟩, ⟨pp0, pp1, pp2⟩, ⟨ll0, ll1, ll2, ll3, ll4, ll5⟩, ⟨vv0, vv1, vv2⟩⟩ := hD.facts
  clear hD w2
  rename World => w2
  rw [rounds_succ]
  go_wp2_with fail
  go_quiet (fail)
  go_wp2_with fail
  refine bodyPost_ret (v := .tuple #[.agg #[(.int .u8 6), (.int .i64 2), (.int .i64 y), (.int .i64 mo), (.int .i64 0), (.int .i64 0), (.int .i64 0), (.int .i64 0), (.bool false), (.int .i64 0)], .bool true]) (by rw [results_cell_tmp rfl]; go_simp) rfl ⟨rfl, ?_⟩
  iterate 11 refine Below.setCell ?_ (by simp) _
  exact bel_drewN D2.out.B _

set_option maxRecDepth 100000 in
set_option maxHeartbeats 1600000 in
theorem pd3n (s a b c : ByteArray) (y mo d : Nat) (w : World) (hy : y ≤ 9999) (hm1 : 1 ≤ mo) (hm2 : mo ≤ 12) (hd1 : 1 ≤ d) (hd2 : d ≤ 31) (hdy : d ≤ dys y mo) (hsa : a.size = 4) (hsb : b.size = 2) (hsc : c.size = 2) (HC : CutN s ⟨#[84]⟩) (HF : FldC s 45 a b c 3) (HD1 : DigC a 4 y) (HD2 : DigC b 2 mo) (HD3 : DigC c 2 d) :
    Calls Try.prog 22 #[.string s] w fun e w' => e = .returned (.tuple #[Uv 5 3 y mo d 0 0 0 false 0, .bool true]) ∧ Below w.heap.size w w' := by
  have hdd : decide (((dys y mo : Nat) : Int) < d) = false := by simp; omega
  go_enter Try.func22, Try.ntmps22
  go_wp2_with fail
  refine (HC _).mono ?_
  rintro e w1 ⟨rfl, rfl⟩
  have D0 := hidd (DR.start w (DX w) 0 rfl a b c)
  go_wp2_with fail
  refine (HF _).mono ?_
  rintro e w1 ⟨rfl, rfl⟩
  go_wp2_with fail
  refine wp_loop_rounds 4 ?_
  rw [rounds_succ]
  go_wp2_with fail
  refine (HD1 _).mono ?_
  rintro e w2 ⟨rfl, hb⟩
  have hD := D0.out.below hb
  have E0 := hidd hD
  obtain ⟨⟨tt0, tt1, tt2, tt3, tt4, tt5, tt6, tt7, tt8, tt9, ttf⟩, ⟨rr0, rr1, rr2, rr3, rr4, rr5, rr6, rr7, rr8, rr9, rrf⟩, ⟨pp0, pp1, pp2⟩, ⟨ll0, ll1, ll2, ll3, ll4, ll5⟩, ⟨vv0, vv1, vv2⟩⟩ := hD.facts
  clear hb hD D0
  go_wp2_with fail
  have hD := (E0.out.set2 (.int .i64 y)).set1 (.int .i64 1)
  obtain ⟨wz, hwz⟩ : ∃ wz, wz = (w2.setCell ⟨w.heap.size + 1, 2, none⟩ (.int .i64 y)).setCell ⟨w.heap.size + 1, 1, none⟩ (.int .i64 1) := ⟨_, rfl⟩
  rw [← hwz] at hD ⊢
  clear hwz E0
  have D1 := hidd hD
  clear tt0 tt1 tt2 tt3 tt4 tt5 tt6 tt7 tt8 tt9 ttf rr0 rr1 rr2 rr3 rr4 rr5 rr6 rr7 rr8 rr9 rrf pp0 pp1 pp2 ll0 ll1 ll2 ll3 ll4 ll5 vv0 vv1 vv2
  obtain ⟨⟨tt0, tt1, tt2, tt3, tt4, tt5, tt6, tt7, tt8, tt9, ttf⟩, ⟨rr0, rr1, rr2, rr3, rr4, rr5, rr6, rr7, rr8, rr9, rrf⟩, ⟨pp0, pp1, pp2⟩, ⟨ll0, ll1, ll2, ll3, ll4, ll5⟩, ⟨vv0, vv1, vv2⟩⟩ := hD.facts
  clear hD w2
  rename World => w2
  rw [rounds_succ]
  go_wp2_with fail
  refine (HD2 _).mono ?_
  rintro e w2 ⟨rfl, hb⟩
  have hD := D1.out.below hb
  have E1 := hidd hD
  clear tt0 tt1 tt2 tt3 tt4 tt5 tt6 tt7 tt8 tt9 ttf rr0 rr1 rr2 rr3 rr4 rr5 rr6 rr7 rr8 rr9 rrf pp0 pp1 pp2 ll0 ll1 ll2 ll3 ll4 ll5 vv0 vv1 vv2
  obtain ⟨⟨tt0, tt1, tt2, tt3, tt4, tt5, tt6, tt7, tt8, tt9, ttf⟩, ⟨rr0, rr1, rr2, rr3, rr4, rr5, rr6, rr7, rr8, rr9, rrf⟩, ⟨pp0, pp1, pp2⟩, ⟨ll0, ll1, ll2, ll3, ll4, ll5⟩, ⟨vv0, vv1, vv2⟩⟩ := hD.facts
  clear hb hD D1
  go_wp2_with fail
  have hD := (E1.out.set3 (.int .i64 mo)).set1 (.int .i64 2)
  obtain ⟨wz, hwz⟩ : ∃ wz, wz = (w2.setCell ⟨w.heap.size + 1, 3, none⟩ (.int .i64 mo)).setCell ⟨w.heap.size + 1, 1, none⟩ (.int .i64 2) := ⟨_, rfl⟩
  rw [← hwz] at hD ⊢
  clear hwz E1
  have D2 := hidd hD
  clear tt0 tt1 tt2 tt3 tt4 tt5 tt6 tt7 tt8 tt9 ttf rr0 rr1 rr2 rr3 rr4 rr5 rr6 rr7 rr8 rr9 rrf pp0 pp1 pp2 ll0 ll1 ll2 ll3 ll4 ll5 vv0 vv1 vv2
  obtain ⟨⟨tt0, tt1, tt2, tt3, tt4, tt5, tt6, tt7, tt8, tt9, ttf⟩, ⟨rr0, rr1, rr2, rr3, rr4, rr5, rr6, rr7, rr8, rr9, rrf⟩, ⟨pp0, pp1, pp2⟩, ⟨ll0, ll1, ll2, ll3, ll4, ll5⟩, ⟨vv0, vv1, vv2⟩⟩ := hD.facts
  clear hD w2
  rename World => w2
  rw [rounds_succ]
  go_wp2_with fail
  refine (HD3 _).mono ?_
  rintro e w2 ⟨rfl, hb⟩
  have hD := D2.out.below hb
  have E2 := hidd hD
  clear tt0 tt1 tt2 tt3 tt4 tt5 tt6 tt7 tt8 tt9 ttf rr0 rr1 rr2 rr3 rr4 rr5 rr6 rr7 rr8 rr9 rrf pp0 pp1 pp2 ll0 ll1 ll2 ll3 ll4 ll5 vv0 vv1 vv2
  obtain ⟨⟨tt0, tt1, tt2, tt3, tt4, tt5, tt6, tt7, tt8, tt9, ttf⟩, ⟨rr0, rr1, rr2, rr3, rr4, rr5, rr6, rr7, rr8, rr9, rrf⟩, ⟨pp0, pp1, pp2⟩, ⟨ll0, ll1, ll2, ll3, ll4, ll5⟩, ⟨vv0, vv1, vv2⟩⟩ := hD.facts
  clear hb hD D2
  go_wp2_with fail
  have hD := (E2.out.set4 (.int .i64 d)).set1 (.int .i64 3)
  obtain ⟨wz, hwz⟩ : ∃ wz, wz = (w2.setCell ⟨w.heap.size + 1, 4, none⟩ (.int .i64 d)).setCell ⟨w.heap.size + 1, 1, none⟩ (.int .i64 3) := ⟨_, rfl⟩
  rw [← hwz] at hD ⊢
  clear hwz E2
  have D3 := hidd hD
  clear tt0 tt1 tt2 tt3 tt4 tt5 tt6 tt7 tt8 tt9 ttf rr0 rr1 rr2 rr3 rr4 rr5 rr6 rr7 rr8 rr9 rrf pp0 pp1 pp2 ll0 ll1 ll2 ll3 ll4 ll5 vv0 vv1 vv2
  obtain ⟨⟨tt0, tt1, tt2, tt3, tt4, tt5, tt6, tt7, tt8, tt9, ttf⟩, ⟨rr0, rr1, rr2, rr3, rr4, rr5, rr6, rr7, rr8, rr9, rrf⟩, ⟨pp0, pp1, pp2⟩, ⟨ll0, ll1, ll2, ll3, ll4, ll5⟩, ⟨vv0, vv1, vv2⟩⟩ := hD.facts
  clear hD w2
  rename World => w2
  rw [rounds_succ]
  go_wp2_with fail
  go_quiet ((go_at_call 27; exact Calls.quiet_of_same (days27 y mo _ hy hm1 hm2)))
  go_wp2_with fail
  refine bodyPost_ret (v := .tuple #[.agg #[(.int .u8 5), (.int .i64 3), (.int .i64 y), (.int .i64 mo), (.int .i64 d), (.int .i64 0), (.int .i64 0), (.int .i64 0), (.bool false), (.int .i64 0)], .bool true]) (by rw [results_cell_tmp rfl]; go_simp) rfl ⟨rfl, ?_⟩
  iterate 10 refine Below.setCell ?_ (by simp) _
  exact bel_drewN D3.out.B _

set_option maxRecDepth 100000 in
set_option maxHeartbeats 1600000 in
theorem pd3m (s D a b c : ByteArray) (y mo d : Nat) (w : World) (hy : y ≤ 9999) (hm1 : 1 ≤ mo) (hm2 : mo ≤ 12) (hd1 : 1 ≤ d) (hd2 : d ≤ 31) (hdy : d ≤ dys y mo) (hsa : a.size = 4) (hsb : b.size = 2) (hsc : c.size = 2) (HC : CutY s ⟨#[84]⟩ D ⟨#[]⟩) (HF : FldC D 45 a b c 3) (HD1 : DigC a 4 y) (HD2 : DigC b 2 mo) (HD3 : DigC c 2 d) :
    Calls Try.prog 22 #[.string s] w fun e w' => e = .returned (.tuple #[Uv 6 3 y mo d 0 0 0 false 0, .bool true]) ∧ Below w.heap.size w w' := by
  have hdd : decide (((dys y mo : Nat) : Int) < d) = false := by simp; omega
  go_enter Try.func22, Try.ntmps22
  go_wp2_with fail
  refine (HC _).mono ?_
  rintro e w1 ⟨rfl, q, rfl⟩
  have D0 := hidd (DR.start w ((DX w).drewN q) q rfl a b c)
  go_wp2_with fail
  refine (HF _).mono ?_
  rintro e w1 ⟨rfl, rfl⟩
  go_wp2_with fail
  refine wp_loop_rounds 4 ?_
  rw [rounds_succ]
  go_wp2_with fail
  refine (HD1 _).mono ?_
  rintro e w2 ⟨rfl, hb⟩
  have hD := D0.out.below hb
  have E0 := hidd hD
  obtain ⟨⟨tt0, tt1, tt2, tt3, tt4, tt5, tt6, tt7, tt8, tt9, ttf⟩, ⟨rr0, rr1, rr2, rr3, rr4, rr5, rr6, rr7, rr8, rr9, rrf⟩, ⟨pp0, pp1, pp2⟩, ⟨ll0, ll1, ll2, ll3, ll4, ll5⟩, ⟨vv0, vv1, vv2⟩⟩ := hD.facts
  clear hb hD D0
  go_wp2_with fail
  have hD := (E0.out.set2 (.int .i64 y)).set1 (.int .i64 1)
  obtain ⟨wz, hwz⟩ : ∃ wz, wz = (w2.setCell ⟨w.heap.size + 1, 2, none⟩ (.int .i64 y)).setCell ⟨w.heap.size + 1, 1, none⟩ (.int .i64 1) := ⟨_, rfl⟩
  rw [← hwz] at hD ⊢
  clear hwz E0
  have D1 := hidd hD
  clear tt0 tt1 tt2 tt3 tt4 tt5 tt6 tt7 tt8 tt9 ttf rr0 rr1 rr2 rr3 rr4 rr5 rr6 rr7 rr8 rr9 rrf pp0 pp1 pp2 ll0 ll1 ll2 ll3 ll4 ll5 vv0 vv1 vv2
  obtain ⟨⟨tt0, tt1, tt2, tt3, tt4, tt5, tt6, tt7, tt8, tt9, ttf⟩, ⟨rr0, rr1, rr2, rr3, rr4, rr5, rr6, rr7, rr8, rr9, rrf⟩, ⟨pp0, pp1, pp2⟩, ⟨ll0, ll1, ll2, ll3, ll4, ll5⟩, ⟨vv0, vv1, vv2⟩⟩ := hD.facts
  clear hD w2
  rename World => w2
  rw [rounds_succ]
  go_wp2_with fail
  refine (HD2 _).mono ?_
  rintro e w2 ⟨rfl, hb⟩
  have hD := D1.out.below hb
  have E1 := hidd hD
  clear tt0 tt1 tt2 tt3 tt4 tt5 tt6 tt7 tt8 tt9 ttf rr0 rr1 rr2 rr3 rr4 rr5 rr6 rr7 rr8 rr9 rrf pp0 pp1 pp2 ll0 ll1 ll2 ll3 ll4 ll5 vv0 vv1 vv2
  obtain ⟨⟨tt0, tt1, tt2, tt3, tt4, tt5, tt6, tt7, tt8, tt9, ttf⟩, ⟨rr0, rr1, rr2, rr3, rr4, rr5, rr6, rr7, rr8, rr9, rrf⟩, ⟨pp0, pp1, pp2⟩, ⟨ll0, ll1, ll2, ll3, ll4, ll5⟩, ⟨vv0, vv1, vv2⟩⟩ := hD.facts
  clear hb hD D1
  go_wp2_with fail
  have hD := (E1.out.set3 (.int .i64 mo)).set1 (.int .i64 2)
  obtain ⟨wz, hwz⟩ : ∃ wz, wz = (w2.setCell ⟨w.heap.size + 1, 3, none⟩ (.int .i64 mo)).setCell ⟨w.heap.size + 1, 1, none⟩ (.int .i64 2) := ⟨_, rfl⟩
  rw [← hwz] at hD ⊢
  clear hwz E1
  have D2 := hidd hD
  clear tt0 tt1 tt2 tt3 tt4 tt5 tt6 tt7 tt8 tt9 ttf rr0 rr1 rr2 rr3 rr4 rr5 rr6 rr7 rr8 rr9 rrf pp0 pp1 pp2 ll0 ll1 ll2 ll3 ll4 ll5 vv0 vv1 vv2
  obtain ⟨⟨tt0, tt1, tt2, tt3, tt4, tt5, tt6, tt7, tt8, tt9, ttf⟩, ⟨rr0, rr1, rr2, rr3, rr4, rr5, rr6, rr7, rr8, rr9, rrf⟩, ⟨pp0, pp1, pp2⟩, ⟨ll0, ll1, ll2, ll3, ll4, ll5⟩, ⟨vv0, vv1, vv2⟩⟩ := hD.facts
  clear hD w2
  rename World => w2
  rw [rounds_succ]
  go_wp2_with fail
  refine (HD3 _).mono ?_
  rintro e w2 ⟨rfl, hb⟩
  have hD := D2.out.below hb
  have E2 := hidd hD
  clear tt0 tt1 tt2 tt3 tt4 tt5 tt6 tt7 tt8 tt9 ttf rr0 rr1 rr2 rr3 rr4 rr5 rr6 rr7 rr8 rr9 rrf pp0 pp1 pp2 ll0 ll1 ll2 ll3 ll4 ll5 vv0 vv1 vv2
  obtain ⟨⟨tt0, tt1, tt2, tt3, tt4, tt5, tt6, tt7, tt8, tt9, ttf⟩, ⟨rr0, rr1, rr2, rr3, rr4, rr5, rr6, rr7, rr8, rr9, rrf⟩, ⟨pp0, pp1, pp2⟩, ⟨ll0, ll1, ll2, ll3, ll4, ll5⟩, ⟨vv0, vv1, vv2⟩⟩ := hD.facts
  clear hb hD D2
  go_wp2_with fail
  have hD := (E2.out.set4 (.int .i64 d)).set1 (.int .i64 3)
  obtain ⟨wz, hwz⟩ : ∃ wz, wz = (w2.setCell ⟨w.heap.size + 1, 4, none⟩ (.int .i64 d)).setCell ⟨w.heap.size + 1, 1, none⟩ (.int .i64 3) := ⟨_, rfl⟩
  rw [← hwz] at hD ⊢
  clear hwz E2
  have D3 := hidd hD
  clear tt0 tt1 tt2 tt3 tt4 tt5 tt6 tt7 tt8 tt9 ttf rr0 rr1 rr2 rr3 rr4 rr5 rr6 rr7 rr8 rr9 rrf pp0 pp1 pp2 ll0 ll1 ll2 ll3 ll4 ll5 vv0 vv1 vv2
  obtain ⟨⟨tt0, tt1, tt2, tt3, tt4, tt5, tt6, tt7, tt8, tt9, ttf⟩, ⟨rr0, rr1, rr2, rr3, rr4, rr5, rr6, rr7, rr8, rr9, rrf⟩, ⟨pp0, pp1, pp2⟩, ⟨ll0, ll1, ll2, ll3, ll4, ll5⟩, ⟨vv0, vv1, vv2⟩⟩ := hD.facts
  clear hD w2
  rename World => w2
  rw [rounds_succ]
  go_wp2_with fail
  go_quiet ((go_at_call 27; exact Calls.quiet_of_same (days27 y mo _ hy hm1 hm2)))
  go_wp2_with fail
  refine bodyPost_ret (v := .tuple #[.agg #[(.int .u8 6), (.int .i64 3), (.int .i64 y), (.int .i64 mo), (.int .i64 d), (.int .i64 0), (.int .i64 0), (.int .i64 0), (.bool false), (.int .i64 0)], .bool true]) (by rw [results_cell_tmp rfl]; go_simp) rfl ⟨rfl, ?_⟩
  iterate 11 refine Below.setCell ?_ (by simp) _
  exact bel_drewN D3.out.B _

end Go.Proofs.Qxb6600803a
