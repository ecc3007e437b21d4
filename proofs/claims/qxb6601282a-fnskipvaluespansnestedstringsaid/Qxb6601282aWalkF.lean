import Derived.Test.Qxb6601282aWalkE
namespace Go.Proofs.Qxb6601282a
open Go.RowKit Sk
set_option linter.unusedVariables false
set_option linter.unusedSimpArgs false

set_option maxRecDepth 100000 in
theorem zb17_yes (a0 a1 a3 : Option Addr) (n0 c0 n1 c1 n3 c3 : Nat) (x : Int) (w : World) (h0 : n0 ≤ 262144) (h1 : n1 ≤ 262144) (h3 : n3 ≤ 262144) :
    Calls Try.prog 17 #[.slice a0 n0 c0, .slice a1 n1 c1, .int .i64 x, .slice a3 n3 c3] w fun e w' => e = .returned (.bool true) ∧ w' = w := by
  go_enter Try.func17, Try.ntmps17
  go_wp2
  go_ret
  exact ⟨rfl, rfl⟩
set_option maxRecDepth 100000 in
set_option maxHeartbeats 800000 in
theorem zb17_any (a0 a1 a3 : Option Addr) (n0 c0 n1 c1 n3 c3 : Nat) (x : Int) (w : World) (h0 : n0 ≤ 9223372036854775807) (h1 : n1 ≤ 9223372036854775807) (h3 : n3 ≤ 9223372036854775807) :
    Calls Try.prog 17 #[.slice a0 n0 c0, .slice a1 n1 c1, .int .i64 x, .slice a3 n3 c3] w fun e w' => ∃ b, e = .returned (.bool b) ∧ w' = w := by
  go_enter Try.func17, Try.ntmps17
  go_wp2
  all_goals
    go_ret
    exact ⟨_, rfl, rfl⟩

theorem drop_S (L : List Int) : ∀ k, S (fun i => L.getD i 0) L.length k = L.drop k := by
  intro k
  apply List.ext_getElem?
  intro i
  rw [List.getElem?_drop]
  unfold S
  by_cases h : k + i < L.length
  · rw [List.getElem?_map, List.getElem?_range' (by omega)]
    simp [List.getD_eq_getElem?_getD, h]
  · rw [List.getElem?_eq_none (by simp; omega), List.getElem?_eq_none (by omega)]
/-- the whole text -/
def doc (P s T : List Int) (d : Nat) : List Int := P ++ (List.replicate d 91 ++ (34 :: (qb s ++ 34 :: (List.replicate d 93 ++ T))))
theorem doc_ans (P s T : List Int) (d : Nat) : ans (doc P s T d).length P.length (gl (S (fun i => (doc P s T d).getD i 0) (doc P s T d).length P.length) 0 0) = P.length + 2 * d + ((qb s).length + 2) := by
  rw [drop_S]
  have : (doc P s T d).drop P.length = List.replicate d 91 ++ (34 :: (qb s ++ 34 :: (List.replicate d 93 ++ T))) := by unfold doc; rw [List.drop_left]
  rw [this, gl_nested, ans]
  simp [doc]
  omega
theorem qb_mem {s : List Int} : ∀ z ∈ qb s, z ∈ s ∨ z = 92 := by
  induction s with
  | nil => intro z h; simp [qb] at h
  | cons c l ih =>
    intro z h
    rw [qb, List.mem_append] at h
    rcases h with h | h
    · split at h
      · simp at h; rcases h with h | h
        · exact .inr h
        · exact .inl (by simp [h])
      · simp at h; exact .inl (by simp [h])
    · rcases ih z h with h | h
      · exact .inl (by simp [h])
      · exact .inr h
theorem doc_range {P s T : List Int} {d : Nat} (hP : ∀ z ∈ P, 0 ≤ z ∧ z < 256) (hs : ∀ z ∈ s, 0 ≤ z ∧ z < 256) (hT : ∀ z ∈ T, 0 ≤ z ∧ z < 256) : ∀ i, i < (doc P s T d).length → 0 ≤ (doc P s T d).getD i 0 ∧ (doc P s T d).getD i 0 < 256 := by
  intro i hi
  have hm : (doc P s T d).getD i 0 ∈ doc P s T d := by
    rw [List.getD_eq_getElem?_getD, List.getElem?_eq_getElem hi]
    exact List.getElem_mem _
  generalize (doc P s T d).getD i 0 = z at hm
  simp only [doc, List.mem_append, List.mem_cons, List.mem_replicate] at hm
  rcases hm with h | ⟨_, h⟩ | h | h | h | ⟨_, h⟩ | h
  · exact hP z h
  · omega
  · omega
  · rcases qb_mem z h with h | h
    · exact hs z h
    · omega
  · omega
  · omega
  · exact hT z h
theorem pre_range {t : Nat → Int} {n : Nat} (h : ∀ i, i < n → 0 ≤ t i ∧ t i < 256) : ∀ z ∈ pre t n, 0 ≤ z ∧ z < 256 := by
  intro z hz
  obtain ⟨i, hi, rfl⟩ := List.mem_map.1 hz
  exact h i (by simpa using hi)
theorem own_txt {w : World} {base g n cap : Nat} {L : List Int} (h : w.ownsRow base 5 1 (.slice (some ⟨g, 0, none⟩) n cap) n (L.map (Value.int .u8))) : Txt w g 0 n (fun i => L.getD i 0) := by
  intro i hi
  have hl : L.length = n := by have := h.1; simpa using this
  rw [Nat.zero_add, h.cellAt i (by omega)]
  simp [List.getD_eq_getElem?_getD, show i < L.length by omega]

/-- the cells of a source, for an append -/
theorem src_news {w : World} {a : Option Addr} {n : Nat} {t : Nat → Int} (h : Src w a n t) : ∀ ad, a = some ad → ∀ j u, ((pre t n).map (Value.int .u8))[j]? = some u → w.cell? (ad.add j) = some u := by
  intro ad ha j u hj
  by_cases h0 : 0 < n
  · obtain ⟨b, off, e, _, ht⟩ := h h0
    rw [e] at ha
    injection ha with ha
    rw [← ha]
    apply txt_add ht j u
    rw [← hj, pre, List.map_map]
    rfl
  · have : n = 0 := by omega
    subst this
    simp [pre] at hj

set_option maxRecDepth 100000 in
set_option maxHeartbeats 3200000 in
theorem law6 (a0 a1 a3 : Option Addr) (n0 c0 n1 c1 n3 c3 : Nat) (t0 t1 t3 : Nat → Int) (d : Nat) (w : World) (h0 : n0 ≤ 262144) (h1 : n1 ≤ 262144) (h3 : n3 ≤ 262144) (hd : d ≤ 4096)
    (hn0 : a0 = none → n0 = 0 ∧ c0 = 0) (hn1 : a1 = none → n1 = 0 ∧ c1 = 0) (hn3 : a3 = none → n3 = 0 ∧ c3 = 0)
    (hr0 : ∀ i, i < n0 → 0 ≤ t0 i ∧ t0 i < 256) (hr1 : ∀ i, i < n1 → 0 ≤ t1 i ∧ t1 i < 256) (hr3 : ∀ i, i < n3 → 0 ≤ t3 i ∧ t3 i < 256)
    (hs0 : Src w a0 n0 t0) (hs1 : Src w a1 n1 t1) (hs3 : Src w a3 n3 t3) :
    Calls Try.prog 6 #[.slice a0 n0 c0, .slice a1 n1 c1, .int .i64 d, .slice a3 n3 c3] w fun e w' => e = .returned (.bool true) ∧ Below w.heap.size w w' := by
  obtain ⟨i0, hi, hz0, hz1, hz2⟩ := info_parts info5
  have HR := hidd (doc_range (d := d) (pre_range hr0) (pre_range hr1) (pre_range hr3))
  have N0 := hidd hn0
  have N1 := hidd hn1
  have N3 := hidd hn3
  have S0 := hidd hs0
  have S1 := hidd hs1
  have S3 := hidd hs3
  clear hr0 hr1 hr3 hn0 hn1 hn3 hs0 hs1 hs3
  have hdd : decide ((4096 : Int) < d) = false := by simp; omega
  have hdz : decide ((d : Int) < 0) = false := by simp
  go_enter Try.func6, Try.ntmps6
  go_wp2_with (go_at_call 17; refine (zb17_yes a0 a1 a3 n0 c0 n1 c1 n3 c3 d _ h0 h1 h3).mono ?_; rintro e w' ⟨rfl, hw'⟩; have hw'' := hw'.symm; subst hw'')
  refine (clone_any a0 n0 c0 t0 _ (by omega) N0.out S0.out).mono ?_
  rintro e w1 ⟨b0, rfl, hq0, hs0, hb1⟩
  have M0 := hidd hq0
  have S0' := hidd hs0
  have S1' := hidd (S1.out.below hb1)
  have S3' := hidd (S3.out.below hb1)
  have B1 := hidd hb1
  clear S0 S1 S3 hs0 hb1 hq0
  go_wp2_with fail
  refine (clone_any a1 n1 c1 t1 _ (by omega) N1.out S1'.out).mono ?_
  rintro e w2 ⟨b1, rfl, hq1, hs1, hb2⟩
  have S0 := hidd (S0'.out.below hb2)
  have S1 := hidd hs1
  have S3 := hidd (S3'.out.below hb2)
  have B2 := hidd (B1.out.trans (hb2.mono B1.out.size))
  clear S0' S1' S3' hs1 hb2 B1 hq1
  go_wp2_with fail
  refine (clone_any a3 n3 c3 t3 _ (by omega) N3.out S3.out).mono ?_
  rintro e w3 ⟨b3, rfl, hq3, hs3, hb3⟩
  have M3 := hidd hq3
  have S0' := hidd (S0.out.below hb3)
  have S1' := hidd (S1.out.below hb3)
  have S3' := hidd hs3
  have B3 := hidd (B2.out.trans (hb3.mono B2.out.size))
  clear S0 S1 S3 hs3 hb3 B2 hq3
  go_wp2_with fail
  refine (quote_any b1 n1 n1 t1 _ h1 S1'.out).mono ?_
  rintro e w4 ⟨m, hm1, hm2, rfl, hown, hb4⟩
  have S0 := hidd (S0'.out.below hb4)
  have S3 := hidd (S3'.out.below hb4)
  have B4 := hidd (B3.out.trans (hb4.mono B3.out.size))
  have hml : m = (qb (pre t1 n1)).length + 2 := by have := hown.1; simp at this; omega
  have HM := hidd hml
  have OQ := hidd hown
  have Q4 : w3.heap.size < w4.heap.size := by
    rcases hown.2 with ⟨h, _⟩ | ⟨g, _, _, e, _, hg, _⟩
    · simp at h
    · simp at e
      rw [e.1]
      exact (Array.getElem?_eq_some_iff.1 hg).1
  clear S0' S3' S1' B3 hown hb4 hml
  go_wp2_with (first
    | (at_make; refine wpList_make_own _ rfl _ _ 22 rfl w4.heap.size 5 i0 (.int .u8 0) 1 Try.underlying22 hi hz0 hz1 _ _ _ (n0 + 2 * d + m + n3) rfl rfl (by omega) (by rw [hz2]; omega) (by unfold maxLen; omega) (Nat.le_refl _) ?_; intro w5 hown5 hgrow5)
    | (at_builtin; refine wpList_append_fits_any _ rfl (.tmp 55) (.tmp 56) 22 rfl w4.heap.size 5 i0 1 Try.underlying22 hi hz1 w4.heap.size 0 (n0 + 2 * d + m + n3) _ rfl hown5 b0 n0 n0 ((pre t0 n0).map (Value.int .u8)) rfl (by simp [pre]) (fun h => ⟨M0.out h, M0.out h⟩) (src_news (S0.out.below ((Below.refl _ _).grown hgrow5 (Nat.le_refl _) (fun k h => by cases h)))) (ints_one _) (by omega) ?_; intro w6 hown6 hgrow6; simp only [Nat.zero_add, List.nil_append] at hown6))
  have hB5 : Below w4.heap.size w4 w5 := (Below.refl _ _).grown hgrow5 (Nat.le_refl _) (fun k h => by cases h)
  have hB6 : Below w4.heap.size w4 w6 := hB5.grown hgrow6 hB5.size (fun k h => by cases h; exact Nat.le_refl _)
  have B6 := hidd hB6
  have O6 := hidd hown6
  clear hown5 hgrow5 hown6 hgrow6 hB5 hB6 S0 M0
  go_loopw [10, 11] (fun vb vi wr => ∃ (k : Nat), k ≤ d ∧ vi = .int .i64 k ∧ vb = .slice (some ⟨w4.heap.size, 0, none⟩) (n0 + k) (n0 + 2 * d + m + n3) ∧ Hid (wr.ownsRow w4.heap.size 5 1 (.slice (some ⟨w4.heap.size, 0, none⟩) (n0 + k) (n0 + 2 * d + m + n3)) (n0 + k) ((pre t0 n0 ++ List.replicate k 91).map (Value.int .u8))) ∧ Hid (Below w4.heap.size w4 wr)) (fun _ vi _ => d - (intOf vi).toNat)
  case atStart => exact ⟨0, by omega, rfl, rfl, by simpa using O6, B6⟩
  case round =>
    obtain ⟨k, hk, rfl, rfl, how, hbl⟩ := hrel
    clear O6 B6
    have hsz : w4.heap.size ≤ wr.heap.size := hbl.out.size
    by_cases hlt : k < d
    · go_wp2_with (at_builtin; refine wpList_append_fits _ rfl (.tmp 63) (.tmp 64) 22 rfl w4.heap.size 5 i0 1 Try.underlying22 hi hz1 w4.heap.size (n0 + k) (n0 + 2 * d + m + n3) _ rfl (how.out.alloc _) ⟨wr.heap.size, 0, none⟩ 1 1 [.int .u8 91] rfl rfl (cell_one_new _ _ _) (ints_one [91]) (by omega) ?_; intro w7 hown7 hgrow7)
      go_roundw
      case rel =>
        refine ⟨k + 1, by omega, by go_num, rfl, ?_, (hbl.out.alloc hbl.out.size _).grown hgrow7 (by simp; omega) (fun k h => by cases h; exact Nat.le_refl _)⟩
        show World.ownsRow _ _ _ _ _ _ _
        have e1 : List.replicate (k + 1) (91 : Int) = List.replicate k 91 ++ [91] := List.replicate_succ'
        rw [e1, ← Nat.add_assoc]
        simpa using hown7
      case measure => simp [intOf]; omega
    · have hkd : k = d := by omega
      subst hkd
      go_wp2_with (at_builtin; refine wpList_append_fits _ rfl (.tmp 66) (.tmp 67) 22 rfl w4.heap.size 5 i0 1 Try.underlying22 hi hz1 w4.heap.size (n0 + k) (n0 + 2 * k + m + n3) _ rfl how.out ⟨w3.heap.size, 0, none⟩ m (2 * n1 + 2) ((34 :: (qb (pre t1 n1) ++ [34])).map (Value.int .u8)) rfl (by have := OQ.out.1; simpa using this) (fun j u hj => (hbl.out.cell (by unfold Addr.add; split <;> exact Q4)).trans (OQ.out.cells rfl j u hj)) (ints_one _) (by omega) ?_; intro w8 hown8 hgrow8)
      have hB8 : Below w4.heap.size w4 w8 := hbl.out.grown hgrow8 hbl.out.size (fun k h => by cases h; exact Nat.le_refl _)
      have B8 := hidd hB8
      have O8 := hidd hown8
      clear how hbl hown8 hgrow8 hB8 hsz hlt hk
      go_loopw [10, 12] (fun vb vi wr => ∃ (j : Nat), j ≤ k ∧ vi = .int .i64 j ∧ vb = .slice (some ⟨w4.heap.size, 0, none⟩) (n0 + k + m + j) (n0 + 2 * k + m + n3) ∧ Hid (wr.ownsRow w4.heap.size 5 1 (.slice (some ⟨w4.heap.size, 0, none⟩) (n0 + k + m + j) (n0 + 2 * k + m + n3)) (n0 + k + m + j) ((pre t0 n0 ++ List.replicate k 91 ++ (34 :: (qb (pre t1 n1) ++ [34])) ++ List.replicate j 93).map (Value.int .u8))) ∧ Hid (Below w4.heap.size w4 wr)) (fun _ vi _ => k - (intOf vi).toNat)
      case atStart => exact ⟨0, by omega, rfl, rfl, by simpa using O8, B8⟩
      case round =>
        obtain ⟨j, hj, rfl, rfl, how, hbl⟩ := hrel
        clear O8 B8
        have hsz : w4.heap.size ≤ wr.heap.size := hbl.out.size
        by_cases hlt : j < k
        · go_wp2_with (at_builtin; refine wpList_append_fits _ rfl (.tmp 74) (.tmp 75) 22 rfl w4.heap.size 5 i0 1 Try.underlying22 hi hz1 w4.heap.size (n0 + k + m + j) (n0 + 2 * k + m + n3) _ rfl (how.out.alloc _) ⟨wr.heap.size, 0, none⟩ 1 1 [.int .u8 93] rfl rfl (cell_one_new _ _ _) (ints_one [93]) (by omega) ?_; intro w7 hown7 hgrow7)
          go_roundw
          case rel =>
            refine ⟨j + 1, by omega, by go_num, rfl, ?_, (hbl.out.alloc hbl.out.size _).grown hgrow7 (by simp; omega) (fun k h => by cases h; exact Nat.le_refl _)⟩
            show World.ownsRow _ _ _ _ _ _ _
            have e1 : List.replicate (j + 1) (93 : Int) = List.replicate j 93 ++ [93] := List.replicate_succ'
            rw [e1, ← Nat.add_assoc]
            simpa using hown7
          case measure => simp [intOf]; omega
        · have hjk : j = k := by omega
          subst hjk
          go_wp2_with (at_builtin; refine wpList_append_fits_any _ rfl (.tmp 77) (.tmp 78) 22 rfl w4.heap.size 5 i0 1 Try.underlying22 hi hz1 w4.heap.size (n0 + j + m + j) (n0 + 2 * j + m + n3) _ rfl how.out b3 n3 n3 ((pre t3 n3).map (Value.int .u8)) rfl (by simp [pre]) (fun h => ⟨M3.out h, M3.out h⟩) (src_news (S3.out.below hbl.out)) (ints_one _) (by omega) ?_; intro w9 hown9 hgrow9)
          have hB9 : Below w4.heap.size w4 w9 := hbl.out.grown hgrow9 hbl.out.size (fun k h => by cases h; exact Nat.le_refl _)
          have B9 := hidd (B4.out.trans (hB9.mono B4.out.size))
          have hL : pre t0 n0 ++ List.replicate j 91 ++ (34 :: (qb (pre t1 n1) ++ [34])) ++ List.replicate j 93 ++ pre t3 n3 = doc (pre t0 n0) (pre t1 n1) (pre t3 n3) j := by simp [doc]
          rw [← List.map_append, hL] at hown9
          obtain ⟨L, HL⟩ : ∃ L, Hid (L = doc (pre t0 n0) (pre t1 n1) (pre t3 n3) j) := ⟨_, rfl⟩
          rw [← HL.out] at hown9
          have HT := hidd (own_txt hown9)
          have hln : L.length = n0 + j + m + j + n3 := by have := hown9.1; simpa using this
          have HA : Hid (ans (n0 + j + m + j + n3) n0 (gl (S (fun i => L.getD i 0) (n0 + j + m + j + n3) n0) 0 0) = n0 + 2 * j + m) := by
            show _ = _
            have := doc_ans (pre t0 n0) (pre t1 n1) (pre t3 n3) j
            rw [← HL.out, hln, pre_length] at this
            rw [this, HM.out]
          have HRL : Hid (∀ i, i < n0 + j + m + j + n3 → 0 ≤ L.getD i 0 ∧ L.getD i 0 < 256) := by
            intro i hi
            have := HR.out i
            rw [← HL.out, hln] at this
            exact this hi
          clear hown9 hgrow9 hB9 hL hln how hbl HL HR
          refine (zsv_any w4.heap.size 0 (n0 + j + m + j + n3) (n0 + 2 * j + m + n3) (fun i => L.getD i 0) n0 _ (by omega) (by omega) HRL.out (by omega) HT.out).mono ?_
          rintro e w2 ⟨rfl, hw2⟩
          have hw2' := hw2.symm
          subst hw2'
          clear hw2
          rw [HA.out]
          go_wp2_with fail
          go_ret
          exact ⟨by first | rfl | trivial | exact ret_bool (by simp; omega), B9.out⟩

end Go.Proofs.Qxb6601282a
