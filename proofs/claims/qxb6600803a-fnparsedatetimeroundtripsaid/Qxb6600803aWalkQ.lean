import Derived.Test.Qxb6600803aWalkN
namespace Go.Proofs.Qxb6600803a
open Go.RowKit Tm
set_option linter.unusedVariables false
set_option linter.unusedSimpArgs false

set_option maxRecDepth 100000 in
set_option maxHeartbeats 1600000 in
theorem pd3z (s D a b c K Z K1 : ByteArray) (y mo d : Nat) (w : World) (hy : y ≤ 9999) (hm1 : 1 ≤ mo) (hm2 : mo ≤ 12) (hd1 : 1 ≤ d) (hd2 : d ≤ 31) (hdy : d ≤ dys y mo) (hsa : a.size = 4) (hsb : b.size = 2) (hsc : c.size = 2) (HC : CutY s ⟨#[84]⟩ D K) (HF : FldC D 45 a b c 3) (HD1 : DigC a 4 y) (HD2 : DigC b 2 mo) (HD3 : DigC c 2 d) (p h m : Int) (nn : Int) (hK : K.toList.isEmpty = false) (hKs : K.size ≤ 1000) (k : Nat) (o : Int) (hk : k < K.size) (hZ : K.extract k K.size = Z) (hK1 : K.extract 0 k = K1) (HO : ∀ w, Calls Try.prog 28 #[.string K] w fun e w' => e = .returned (.int .i64 k) ∧ w' = w) (HZ : ∀ w, Calls Try.prog 29 #[.string Z] w fun e w' => e = .returned (.tuple #[.int .i64 o, .bool true]) ∧ Below w.heap.size w w') (HT : ∀ w, Calls Try.prog 18 #[.string K1] w fun e w' => e = .returned (.tuple #[Tv p h m nn, .bool true]) ∧ Below w.heap.size w w') :
    Calls Try.prog 22 #[.string s] w fun e w' => e = .returned (.tuple #[Uv 6 p y mo d h m nn true o, .bool true]) ∧ Below w.heap.size w w' := by
  have hdd : decide (((dys y mo : Nat) : Int) < d) = false := by simp; omega
  go_enter Try.func22, Try.ntmps22
  go_wp2_with fail
  refine (HC _).mono ?_
  rintro e w1 ⟨rfl, q, rfl⟩
  have D0 := hidd (DR.start w ((DX w).drewN q) q rfl a b c)
  go_wp2_with fail
  refine (HF _).mono ?_
  rintro e w1 ⟨rfl, rfl⟩
  go_wp2_with fail
  refine wp_loop_rounds 4 ?_
  rw [rounds_succ]
  go_wp2_with fail
  refine (HD1 _).mono ?_
  rintro e w2 ⟨rfl, hb⟩
  have hD := D0.out.below hb
  have E0 := hidd hD
  obtain ⟨⟨tt0, tt1, tt2, tt3, tt4, tt5, tt6, tt7, tt8, tt9, ttf⟩, ⟨rr0, rr1, rr2, rr3, rr4, rr5, rr6, rr7, rr8, rr9, rrf⟩, ⟨pp0, pp1, pp2⟩, ⟨ll0, ll1, ll2, ll3, ll4, ll5⟩, ⟨vv0, vv1, vv2⟩⟩ := hD.facts
  clear hb hD D0
  go_wp2_with fail
  have hD := (E0.out.set2 (.int .i64 y)).set1 (.int .i64 1)
  obtain ⟨wz, hwz⟩ : ∃ wz, wz = (w2.setCell ⟨w.heap.size + 1, 2, none⟩ (.int .i64 y)).setCell ⟨w.heap.size + 1, 1, none⟩ (.int .i64 1) := ⟨_, rfl⟩
  rw [← hwz] at hD ⊢
  clear hwz E0
  have D1 := hidd hD
  clear tt0 tt1 tt2 tt3 tt4 tt5 tt6 tt7 tt8 tt9 ttf rr0 rr1 rr2 rr3 rr4 rr5 rr6 rr7 rr8 rr9 rrf pp0 pp1 pp2 ll0 ll1 ll2 ll3 ll4 ll5 vv0 vv1 vv2
  obtain ⟨⟨tt0, tt1, tt2, tt3, tt4, tt5, tt6, tt7, tt8, tt9, ttf⟩, ⟨rr0, rr1, rr2, rr3, rr4, rr5, rr6, rr7, rr8, rr9, rrf⟩, ⟨pp0, pp1, pp2⟩, ⟨ll0, ll1, ll2, ll3, ll4, ll5⟩, ⟨vv0, vv1, vv2⟩⟩ := hD.facts
  clear hD w2
  rename World => w2
  rw [rounds_succ]
  go_wp2_with fail
  refine (HD2 _).mono ?_
  rintro e w2 ⟨rfl, hb⟩
  have hD := D1.out.below hb
  have E1 := hidd hD
  clear tt0 tt1 tt2 tt3 tt4 tt5 tt6 tt7 tt8 tt9 ttf rr0 rr1 rr2 rr3 rr4 rr5 rr6 rr7 rr8 rr9 rrf pp0 pp1 pp2 ll0 ll1 ll2 ll3 ll4 ll5 vv0 vv1 vv2
  obtain ⟨⟨tt0, tt1, tt2, tt3, tt4, tt5, tt6, tt7, tt8, tt9, ttf⟩, ⟨rr0, rr1, rr2, rr3, rr4, rr5, rr6, rr7, rr8, rr9, rrf⟩, ⟨pp0, pp1, pp2⟩, ⟨ll0, ll1, ll2, ll3, ll4, ll5⟩, ⟨vv0, vv1, vv2⟩⟩ := hD.facts
  clear hb hD D1
  go_wp2_with fail
  have hD := (E1.out.set3 (.int .i64 mo)).set1 (.int .i64 2)
  obtain ⟨wz, hwz⟩ : ∃ wz, wz = (w2.setCell ⟨w.heap.size + 1, 3, none⟩ (.int .i64 mo)).setCell ⟨w.heap.size + 1, 1, none⟩ (.int .i64 2) := ⟨_, rfl⟩
  rw [← hwz] at hD ⊢
  clear hwz E1
  have D2 := hidd hD
  clear tt0 tt1 tt2 tt3 tt4 tt5 tt6 tt7 tt8 tt9 ttf rr0 rr1 rr2 rr3 rr4 rr5 rr6 rr7 rr8 rr9 rrf pp0 pp1 pp2 ll0 ll1 ll2 ll3 ll4 ll5 vv0 vv1 vv2
  obtain ⟨⟨tt0, tt1, tt2, tt3, tt4, tt5, tt6, tt7, tt8, tt9, ttf⟩, ⟨rr0, rr1, rr2, rr3, rr4, rr5, rr6, rr7, rr8, rr9, rrf⟩, ⟨pp0, pp1, pp2⟩, ⟨ll0, ll1, ll2, ll3, ll4, ll5⟩, ⟨vv0, vv1, vv2⟩⟩ := hD.facts
  clear hD w2
  rename World => w2
  rw [rounds_succ]
  go_wp2_with fail
  refine (HD3 _).mono ?_
  rintro e w2 ⟨rfl, hb⟩
  have hD := D2.out.below hb
  have E2 := hidd hD
  clear tt0 tt1 tt2 tt3 tt4 tt5 tt6 tt7 tt8 tt9 ttf rr0 rr1 rr2 rr3 rr4 rr5 rr6 rr7 rr8 rr9 rrf pp0 pp1 pp2 ll0 ll1 ll2 ll3 ll4 ll5 vv0 vv1 vv2
  obtain ⟨⟨tt0, tt1, tt2, tt3, tt4, tt5, tt6, tt7, tt8, tt9, ttf⟩, ⟨rr0, rr1, rr2, rr3, rr4, rr5, rr6, rr7, rr8, rr9, rrf⟩, ⟨pp0, pp1, pp2⟩, ⟨ll0, ll1, ll2, ll3, ll4, ll5⟩, ⟨vv0, vv1, vv2⟩⟩ := hD.facts
  clear hb hD D2
  go_wp2_with fail
  have hD := (E2.out.set4 (.int .i64 d)).set1 (.int .i64 3)
  obtain ⟨wz, hwz⟩ : ∃ wz, wz = (w2.setCell ⟨w.heap.size + 1, 4, none⟩ (.int .i64 d)).setCell ⟨w.heap.size + 1, 1, none⟩ (.int .i64 3) := ⟨_, rfl⟩
  rw [← hwz] at hD ⊢
  clear hwz E2
  have D3 := hidd hD
  clear tt0 tt1 tt2 tt3 tt4 tt5 tt6 tt7 tt8 tt9 ttf rr0 rr1 rr2 rr3 rr4 rr5 rr6 rr7 rr8 rr9 rrf pp0 pp1 pp2 ll0 ll1 ll2 ll3 ll4 ll5 vv0 vv1 vv2
  obtain ⟨⟨tt0, tt1, tt2, tt3, tt4, tt5, tt6, tt7, tt8, tt9, ttf⟩, ⟨rr0, rr1, rr2, rr3, rr4, rr5, rr6, rr7, rr8, rr9, rrf⟩, ⟨pp0, pp1, pp2⟩, ⟨ll0, ll1, ll2, ll3, ll4, ll5⟩, ⟨vv0, vv1, vv2⟩⟩ := hD.facts
  clear hD w2
  rename World => w2
  rw [rounds_succ]
  go_wp2_with fail
  go_quiet ((go_at_call 27; exact Calls.quiet_of_same (days27 y mo _ hy hm1 hm2)))
  go_wp2_with fail
  have hD := (D3.out.drewN nq).set0 (.int .u8 6)
  obtain ⟨wz, hwz⟩ : ∃ wz, wz = (w2.drewN nq).setCell ⟨w.heap.size + 1, 0, none⟩ (.int .u8 6) := ⟨_, rfl⟩
  rw [← hwz] at hD ⊢
  clear hwz D3
  have D4 := hidd hD
  clear tt0 tt1 tt2 tt3 tt4 tt5 tt6 tt7 tt8 tt9 ttf rr0 rr1 rr2 rr3 rr4 rr5 rr6 rr7 rr8 rr9 rrf pp0 pp1 pp2 ll0 ll1 ll2 ll3 ll4 ll5 vv0 vv1 vv2
  obtain ⟨⟨tt0, tt1, tt2, tt3, tt4, tt5, tt6, tt7, tt8, tt9, ttf⟩, ⟨rr0, rr1, rr2, rr3, rr4, rr5, rr6, rr7, rr8, rr9, rrf⟩, ⟨pp0, pp1, pp2⟩, ⟨ll0, ll1, ll2, ll3, ll4, ll5⟩, ⟨vv0, vv1, vv2⟩⟩ := hD.facts
  clear hD w2
  refine (HO _).mono ?_
  rintro e w3 ⟨rfl, hw3⟩
  have hw3' := hw3.symm
  subst hw3'
  clear hw3
  go_wp2_with fail
  refine (HZ _).mono ?_
  rintro e w3 ⟨rfl, hb⟩
  have hD := D4.out.below hb
  have D4' := hidd hD
  clear tt0 tt1 tt2 tt3 tt4 tt5 tt6 tt7 tt8 tt9 ttf rr0 rr1 rr2 rr3 rr4 rr5 rr6 rr7 rr8 rr9 rrf pp0 pp1 pp2 ll0 ll1 ll2 ll3 ll4 ll5 vv0 vv1 vv2
  obtain ⟨⟨tt0, tt1, tt2, tt3, tt4, tt5, tt6, tt7, tt8, tt9, ttf⟩, ⟨rr0, rr1, rr2, rr3, rr4, rr5, rr6, rr7, rr8, rr9, rrf⟩, ⟨pp0, pp1, pp2⟩, ⟨ll0, ll1, ll2, ll3, ll4, ll5⟩, ⟨vv0, vv1, vv2⟩⟩ := hD.facts
  clear hb hD D4
  go_wp2_with fail
  go_region
  have hD := ((D4'.out.set8 (.bool true)).set9 (.int .i64 o)).drewN 1
  obtain ⟨wy, hwy⟩ : ∃ wy, wy = ((w3.setCell ⟨w.heap.size + 1, 8, none⟩ (.bool true)).setCell ⟨w.heap.size + 1, 9, none⟩ (.int .i64 o)).drew := ⟨_, rfl⟩
  rw [show (((w3.setCell ⟨w.heap.size + 1, 8, none⟩ (.bool true)).setCell ⟨w.heap.size + 1, 9, none⟩ (.int .i64 o)).drewN 1) = wy from hwy.symm] at hD
  rw [← hwy]
  clear hwy D4'
  have D4 := hidd hD
  clear tt0 tt1 tt2 tt3 tt4 tt5 tt6 tt7 tt8 tt9 ttf rr0 rr1 rr2 rr3 rr4 rr5 rr6 rr7 rr8 rr9 rrf pp0 pp1 pp2 ll0 ll1 ll2 ll3 ll4 ll5 vv0 vv1 vv2
  obtain ⟨⟨tt0, tt1, tt2, tt3, tt4, tt5, tt6, tt7, tt8, tt9, ttf⟩, ⟨rr0, rr1, rr2, rr3, rr4, rr5, rr6, rr7, rr8, rr9, rrf⟩, ⟨pp0, pp1, pp2⟩, ⟨ll0, ll1, ll2, ll3, ll4, ll5⟩, ⟨vv0, vv1, vv2⟩⟩ := hD.facts
  clear hD w3
  go_wp2_with fail
  refine (HT _).mono ?_
  rintro e w3 ⟨rfl, hb⟩
  have hD := (D4.out.below hb).alloc (.cells #[(.int .u8 7), (.int .i64 p), (.int .i64 0), (.int .i64 0), (.int .i64 0), (.int .i64 h), (.int .i64 m), (.int .i64 nn), (.bool false), (.int .i64 0)] 38)
  have hQ := row10_alloc w3 (.int .u8 7) (.int .i64 p) (.int .i64 0) (.int .i64 0) (.int .i64 0) (.int .i64 h) (.int .i64 m) (.int .i64 nn) (.bool false) (.int .i64 0) 38
  have hG : w.heap.size + 1 < w3.heap.size := (D4.out.below hb).T.lt
  unfold Tv
  clear hb D4
  clear tt0 tt1 tt2 tt3 tt4 tt5 tt6 tt7 tt8 tt9 ttf rr0 rr1 rr2 rr3 rr4 rr5 rr6 rr7 rr8 rr9 rrf pp0 pp1 pp2 ll0 ll1 ll2 ll3 ll4 ll5 vv0 vv1 vv2
  go_wp2_with fail
  obtain ⟨G, hGG⟩ : ∃ G, G = w3.heap.size := ⟨_, rfl⟩
  obtain ⟨wz2, hwz⟩ : ∃ wz2, wz2 = w3.alloc (.cells #[(.int .u8 7), (.int .i64 p), (.int .i64 0), (.int .i64 0), (.int .i64 0), (.int .i64 h), (.int .i64 m), (.int .i64 nn), (.bool false), (.int .i64 0)] 38) := ⟨_, rfl⟩
  rw [← hwz] at hD hQ ⊢
  rw [← hGG] at hQ hG ⊢
  clear hwz hGG w3
  have D5 := hidd hD
  obtain ⟨qq0, qq1, qq2, qq3, qq4, qq5, qq6, qq7, qq8, qq9, qqf⟩ := facts10 hQ
  obtain ⟨⟨tt0, tt1, tt2, tt3, tt4, tt5, tt6, tt7, tt8, tt9, ttf⟩, ⟨rr0, rr1, rr2, rr3, rr4, rr5, rr6, rr7, rr8, rr9, rrf⟩, ⟨pp0, pp1, pp2⟩, ⟨ll0, ll1, ll2, ll3, ll4, ll5⟩, ⟨vv0, vv1, vv2⟩⟩ := hD.facts
  clear hD hQ
  go_region
  have hD := ((((D5.out.set5 (.int .i64 h)).set6 (.int .i64 m)).set7 (.int .i64 nn)).set1 (.int .i64 p)).drewN 1
  obtain ⟨wz3, hwz⟩ : ∃ wz3, wz3 = ((((wz2.setCell ⟨w.heap.size + 1, 5, none⟩ (.int .i64 h)).setCell ⟨w.heap.size + 1, 6, none⟩ (.int .i64 m)).setCell ⟨w.heap.size + 1, 7, none⟩ (.int .i64 nn)).setCell ⟨w.heap.size + 1, 1, none⟩ (.int .i64 p)).drew := ⟨_, rfl⟩
  rw [show (((((wz2.setCell ⟨w.heap.size + 1, 5, none⟩ (.int .i64 h)).setCell ⟨w.heap.size + 1, 6, none⟩ (.int .i64 m)).setCell ⟨w.heap.size + 1, 7, none⟩ (.int .i64 nn)).setCell ⟨w.heap.size + 1, 1, none⟩ (.int .i64 p)).drewN 1) = wz3 from hwz.symm] at hD
  rw [← hwz]
  clear hwz D5 qq0 qq1 qq2 qq3 qq4 qq5 qq6 qq7 qq8 qq9 qqf
  have D6 := hidd hD
  clear tt0 tt1 tt2 tt3 tt4 tt5 tt6 tt7 tt8 tt9 ttf rr0 rr1 rr2 rr3 rr4 rr5 rr6 rr7 rr8 rr9 rrf pp0 pp1 pp2 ll0 ll1 ll2 ll3 ll4 ll5 vv0 vv1 vv2
  obtain ⟨⟨tt0, tt1, tt2, tt3, tt4, tt5, tt6, tt7, tt8, tt9, ttf⟩, ⟨rr0, rr1, rr2, rr3, rr4, rr5, rr6, rr7, rr8, rr9, rrf⟩, ⟨pp0, pp1, pp2⟩, ⟨ll0, ll1, ll2, ll3, ll4, ll5⟩, ⟨vv0, vv1, vv2⟩⟩ := hD.facts
  clear hD wz2
  go_wp2_with fail
  refine bodyPost_ret (v := .tuple #[.agg #[(.int .u8 6), (.int .i64 p), (.int .i64 y), (.int .i64 mo), (.int .i64 d), (.int .i64 h), (.int .i64 m), (.int .i64 nn), (.bool true), (.int .i64 o)], .bool true]) (by rw [results_cell_tmp rfl]; go_simp) rfl ⟨rfl, ?_⟩
  iterate 10 refine Below.setCell ?_ (by simp) _
  exact D6.out.B

end Go.Proofs.Qxb6600803a
