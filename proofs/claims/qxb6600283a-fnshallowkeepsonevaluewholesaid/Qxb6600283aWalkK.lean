import Derived.Test.Qxb6600283aWalkJ
import Derived.Test.Qxb6600283aPlain6
import Derived.Maps.AppendAt
namespace Go.Proofs.Qxb6600283a
open Go.RowKit Js
set_option linter.unusedVariables false
set_option linter.unusedSimpArgs false

/-- where the loop of Shallow stands -/
def ShR (dep : Int) (t : Nat → Int) (n : Nat) (w : World) (k : Nat) (o : Int) (m : Nat) (v : Value) (wr : World) : Prop :=
  ∃ ks : List Int, wr.ownsRow w.heap.size 5 1 v ks.length (ks.map (Value.int .u8)) ∧ Below w.heap.size w wr ∧ ks.length ≤ k ∧ ks ++ sh dep (S t n k) o m = sh dep (S t n 0) 0 0

theorem ShR.drop {dep : Int} {t : Nat → Int} {n : Nat} {w : World} {k : Nat} {o : Int} {m : Nat} {v : Value} {wr : World} (h : ShR dep t n w k o m v wr) {k' : Nat} {o' : Int} {m' : Nat} (hk : k ≤ k')
    (e : sh dep (S t n k) o m = sh dep (S t n k') o' m') : ShR dep t n w k' o' m' v wr := by
  obtain ⟨ks, h1, h2, h3, h4⟩ := h
  exact ⟨ks, h1, h2, by omega, by rw [← e]; exact h4⟩

theorem own_ge {w : World} {base : Nat} {e : TypeId} {size : Nat} {v : Value} {n : Nat} {xs : List Value} (h : w.ownsRow base e size v n xs) : ∀ g, v.ownBlock = some g → base ≤ g := by
  intro g hg
  rcases h with ⟨_, ⟨rfl, _⟩ | ⟨g', cap, cur, rfl, hb, _⟩⟩
  · simp [Value.ownBlock] at hg
  · simp [Value.ownBlock] at hg
    omega
theorem ShR.keep {dep : Int} {t : Nat → Int} {n : Nat} {w : World} {k : Nat} {o : Int} {m : Nat} {v : Value} {wr : World} {ks : List Int}
    (h1 : wr.ownsRow w.heap.size 5 1 v ks.length (ks.map (Value.int .u8))) (h2 : Below w.heap.size w wr) (h3 : ks.length ≤ k) (h4 : ks ++ sh dep (S t n k) o m = sh dep (S t n 0) 0 0)
    {c : Int} {v' : Value} {w1 : World} {ob : Obj} (ho : w1.ownsRow w.heap.size 5 1 v' (ks.length + 1) (ks.map (Value.int .u8) ++ [.int .u8 c])) (hg : (wr.alloc ob).grownBy w1 v.ownBlock)
    {k' : Nat} {o' : Int} {m' : Nat} (hk : k < k') (e : sh dep (S t n k) o m = c :: sh dep (S t n k') o' m') : ShR dep t n w k' o' m' v' w1 := by
  refine ⟨ks ++ [c], by simpa using ho, (h2.alloc h2.size ob).grown hg (by have := h2.size; simp; omega) (own_ge h1), by simp; omega, ?_⟩
  rw [List.append_assoc, List.singleton_append, ← e]
  exact h4

section
variable {dep o : Int} {t : Nat → Int} {n k : Nat}
theorem s1_esc (h : k < n) (h2 : k + 1 < n) (e : t k = 92) : sh dep (S t n k) o 1 = kp dep o 92 (kp dep o (t (k + 1)) (sh dep (S t n (k + 2)) o 1)) := by
  rw [S_cons h, sh, if_pos e, S_cons h2, show (2 : Nat) = 0 + 2 from rfl, sh, e]
theorem s1_last (h : k < n) (h2 : ¬ k + 1 < n) (e : t k = 92) : sh dep (S t n k) o 1 = kp dep o (t k) (sh dep (S t n (k + 1)) o 1) := by
  rw [S_cons h, sh, S_nil h2, sh_nil, sh_nil]
theorem s1_quote (h : k < n) (e : t k = 34) : sh dep (S t n k) o 1 = kp dep o (t k) (sh dep (S t n (k + 1)) o 0) := by
  rw [S_cons h, sh, if_neg (by omega), if_pos e]
theorem s1_other (h : k < n) (e1 : ¬ t k = 92) (e2 : ¬ t k = 34) : sh dep (S t n k) o 1 = kp dep o (t k) (sh dep (S t n (k + 1)) o 1) := by
  rw [S_cons h, sh, if_neg e1, if_neg e2]
theorem s0_quote (h : k < n) (e : t k = 34) : sh dep (S t n k) o 0 = kp dep o (t k) (sh dep (S t n (k + 1)) o 1) := by
  rw [S_cons h, sh, if_pos e]
theorem s0_open (h : k < n) (e : t k = 91 ∨ t k = 123) : sh dep (S t n k) o 0 = if dep < o + 1 then sh dep (S t n (k + 1)) (o + 1) 0 else t k :: sh dep (S t n (k + 1)) (o + 1) 0 := by
  rw [S_cons h, sh_open e]
theorem s0_close (h : k < n) (e : t k = 93 ∨ t k = 125) : sh dep (S t n k) o 0 = if dep < o then sh dep (S t n (k + 1)) (o - 1) 0 else t k :: sh dep (S t n (k + 1)) (o - 1) 0 := by
  rw [S_cons h, sh_close e]
theorem s0_other (h : k < n) (e : nb (t k) = true) : sh dep (S t n k) o 0 = kp dep o (t k) (sh dep (S t n (k + 1)) o 0) := by
  rw [S_cons h, sh_nb e]
end

theorem ShR.keep2 {dep : Int} {t : Nat → Int} {n : Nat} {w : World} {k : Nat} {o : Int} {m : Nat} {v : Value} {wr : World} {ks : List Int}
    (h1 : wr.ownsRow w.heap.size 5 1 v ks.length (ks.map (Value.int .u8))) (h2 : Below w.heap.size w wr) (h3 : ks.length ≤ k) (h4 : ks ++ sh dep (S t n k) o m = sh dep (S t n 0) 0 0)
    {c c2 : Int} {v' v2 : Value} {w1 w2 : World} {ob ob2 : Obj} (ho : w1.ownsRow w.heap.size 5 1 v' (ks.length + 1) (ks.map (Value.int .u8) ++ [.int .u8 c])) (hg : (wr.alloc ob).grownBy w1 v.ownBlock)
    (ho2 : w2.ownsRow w.heap.size 5 1 v2 (ks.length + 1 + 1) (ks.map (Value.int .u8) ++ [.int .u8 c] ++ [.int .u8 c2])) (hg2 : (w1.alloc ob2).grownBy w2 v'.ownBlock)
    {k' : Nat} {o' : Int} {m' : Nat} (hk : k + 1 < k') (e : sh dep (S t n k) o m = c :: c2 :: sh dep (S t n k') o' m') : ShR dep t n w k' o' m' v2 w2 := by
  have hb1 := (h2.alloc h2.size ob).grown hg (by have := h2.size; simp; omega) (own_ge h1)
  refine ⟨ks ++ [c] ++ [c2], by simpa using ho2, (hb1.alloc hb1.size ob2).grown hg2 (by have := hb1.size; simp; omega) (own_ge ho), by simp; omega, ?_⟩
  rw [List.append_assoc, List.append_assoc, List.singleton_append, List.singleton_append, ← e]
  exact h4
theorem two_cell {w wr w1 : World} {v : Value} {ks : List Int} {ob : Obj} (hbl : Below w.heap.size w wr) (hbase : w.heap.size ≤ wr.heap.size) (hown : wr.ownsRow w.heap.size 5 1 v ks.length (ks.map (Value.int .u8))) (hg : (wr.alloc ob).grownBy w1 v.ownBlock)
    {b o : Nat} {x : Value} (hb : b < w.heap.size) (hc : w.cell? ⟨b, o, none⟩ = some x) : w1.cell? ⟨b, o, none⟩ = some x :=
  (((hbl.alloc hbase ob).grown hg (by simp; omega) (own_ge hown)).cell (p := ⟨b, o, none⟩) hb).trans hc
theorem two_size {w wr w1 : World} {v : Value} {ob : Obj} (hbase : w.heap.size ≤ wr.heap.size) (hg : (wr.alloc ob).grownBy w1 v.ownBlock) : w.heap.size ≤ w1.heap.size := by
  have := hg.size; simp at this; omega

set_option maxRecDepth 100000 in
set_option maxHeartbeats 4000000 in
theorem shallow_any (b off n cap : Nat) (t : Nat → Int) (dep : Int) (w : World) (hn : n ≤ 1048576) (hb : b < w.heap.size) (hd1 : 1 ≤ dep) (hd2 : dep ≤ 9223372036854775807) (hc : Txt w b off n t) :
    Calls Try.prog 17 #[.slice (some ⟨b, off, none⟩) n cap, .int .i64 dep] w fun e w' => ∃ v, e = .returned v ∧ (sh dep (S t n 0) 0 0).length ≤ n ∧ w'.ownsRow w.heap.size 5 1 v (sh dep (S t n 0) 0 0).length ((sh dep (S t n 0) 0 0).map (Value.int .u8)) ∧ Below w.heap.size w w' := by
  obtain ⟨i0, hi, hz0, hz1, hz2⟩ := info_parts info5
  have HC : Hid (Txt w b off n t) := hc
  clear hc
  go_enter Try.func17, Try.ntmps17
  go_wp2_with fail
  go_loopw [5, 6, 7, 8] (fun v vo vs vi wr => ∃ (k m : Nat) (o : Int), k ≤ n ∧ m ≤ 1 ∧ vi = .int .i64 k ∧ vo = .int .i64 o ∧ vs = .bool (m == 1) ∧ -(k : Int) ≤ o ∧ o ≤ k ∧ ShR dep t n w k o m v wr) (fun _ _ _ vi _ => n - (intOf vi).toNat)
  case atStart => exact ⟨0, 0, 0, by omega, by omega, rfl, rfl, rfl, by omega, by omega, [], World.ownsRow_nil _ _ _ _, Below.refl _ _, by simp, rfl⟩
  case round =>
    obtain ⟨k, m, o, hk, hm, rfl, rfl, rfl, ho1, ho2, hR⟩ := hrel
    by_cases hlt : k < n
    · obtain ⟨ks, hown, hbl, hks, hsh⟩ := hR
      have hHR : Hid (ShR dep t n w k o m u5 wr) := ⟨ks, hown, hbl, hks, hsh⟩
      have hbase : w.heap.size ≤ wr.heap.size := hbl.size
      have hcx : wr.cell? ⟨b, off + k, none⟩ = some (.int .u8 (t k)) := (hbl.cell (p := ⟨b, off + k, none⟩) hb).trans (HC.out k hlt)
      have HS : Hid (ks ++ sh dep (S t n k) o m = sh dep (S t n 0) 0 0) := hsh
      have HB : Hid (Below w.heap.size w wr) := hbl
      clear hsh hbl
      have hm01 : m = 0 ∨ m = 1 := by omega
      rcases hm01 with rfl | rfl
      · by_cases c34 : t k = 34
        · have e34 : (t k == 34) = true := by simp [c34]
          have H34 : Hid (t k = 34) := c34
          clear c34
          by_cases hin : dep ≤ o
          · go_wp2_with fail
            go_roundw
            case rel => exact ⟨k + 1, 1, o, by omega, by omega, by go_num, rfl, rfl, by omega, by omega, hHR.out.drop (by omega) (by rw [s0_quote hlt H34.out, kp_hi hin])⟩
            case measure => simp [intOf]; omega
          · go_wp2_with (at_builtin; refine wpList_append_own _ rfl (.tmp 83) (.tmp 85) 22 rfl w.heap.size 5 i0 (.int .u8 0) 1 1 Try.underlying22 hi hz0 hz1 hz2 rfl (by decide) u5 ks.length (ks.map (Value.int .u8)) rfl (hown.alloc _) ⟨wr.heap.size, 0, none⟩ 1 1 [.int .u8 (t k)] rfl rfl (cell_one_new _ _ _) (by intro u hu; simp at hu; subst hu; rfl) (by unfold maxLen; omega) (by omega) (by simp; omega) ?_; intro v1 w1 ho1' hg1 _)
            go_roundw
            case rel => exact ⟨k + 1, 1, o, by omega, by omega, by go_num, rfl, rfl, by omega, by omega, ShR.keep hown HB.out hks HS.out ho1' hg1 (by omega) (by rw [s0_quote hlt H34.out, kp_lo (by omega)])⟩
            case measure => simp [intOf]; omega
        · have e34 : (t k == 34) = false := by simp [c34]
          by_cases cop : t k = 91 ∨ t k = 123
          · have HOP : Hid (t k = 91 ∨ t k = 123) := cop
            have ebb : (t k == 91) = true ∨ (t k == 91) = false ∧ (t k == 123) = true := by simp; omega
            clear cop
            by_cases hin : dep < o + 1
            · rcases ebb with e91 | ⟨e91, e123⟩
              all_goals
                go_wp2_with fail
                go_roundw
                case rel => exact ⟨k + 1, 0, o + 1, by omega, by omega, by go_num, rfl, rfl, by omega, by omega, hHR.out.drop (by omega) (by rw [s0_open hlt HOP.out, if_pos hin])⟩
                case measure => simp [intOf]; omega
            · rcases ebb with e91 | ⟨e91, e123⟩
              all_goals
                go_wp2_with (at_builtin; refine wpList_append_own _ rfl (.tmp 83) (.tmp 85) 22 rfl w.heap.size 5 i0 (.int .u8 0) 1 1 Try.underlying22 hi hz0 hz1 hz2 rfl (by decide) u5 ks.length (ks.map (Value.int .u8)) rfl (hown.alloc _) ⟨wr.heap.size, 0, none⟩ 1 1 [.int .u8 (t k)] rfl rfl (cell_one_new _ _ _) (by intro u hu; simp at hu; subst hu; rfl) (by unfold maxLen; omega) (by omega) (by simp; omega) ?_; intro v1 w1 ho1' hg1 _)
                go_roundw
                case rel => exact ⟨k + 1, 0, o + 1, by omega, by omega, by go_num, rfl, rfl, by omega, by omega, ShR.keep hown HB.out hks HS.out ho1' hg1 (by omega) (by rw [s0_open hlt HOP.out, if_neg (by omega)])⟩
                case measure => simp [intOf]; omega
          · have e91 : (t k == 91) = false := by simp; omega
            have e123 : (t k == 123) = false := by simp; omega
            by_cases ccl : t k = 93 ∨ t k = 125
            · have HCL : Hid (t k = 93 ∨ t k = 125) := ccl
              have ebb : (t k == 93) = true ∨ (t k == 93) = false ∧ (t k == 125) = true := by simp; omega
              clear ccl
              by_cases hin : dep < o
              · rcases ebb with e93 | ⟨e93, e125⟩
                all_goals
                  go_wp2_with fail
                  go_roundw
                  case rel => exact ⟨k + 1, 0, o - 1, by omega, by omega, by go_num, rfl, rfl, by omega, by omega, hHR.out.drop (by omega) (by rw [s0_close hlt HCL.out, if_pos hin])⟩
                  case measure => simp [intOf]; omega
              · rcases ebb with e93 | ⟨e93, e125⟩
                all_goals
                  go_wp2_with (at_builtin; refine wpList_append_own _ rfl (.tmp 83) (.tmp 85) 22 rfl w.heap.size 5 i0 (.int .u8 0) 1 1 Try.underlying22 hi hz0 hz1 hz2 rfl (by decide) u5 ks.length (ks.map (Value.int .u8)) rfl (hown.alloc _) ⟨wr.heap.size, 0, none⟩ 1 1 [.int .u8 (t k)] rfl rfl (cell_one_new _ _ _) (by intro u hu; simp at hu; subst hu; rfl) (by unfold maxLen; omega) (by omega) (by simp; omega) ?_; intro v1 w1 ho1' hg1 _)
                  go_roundw
                  case rel => exact ⟨k + 1, 0, o - 1, by omega, by omega, by go_num, rfl, rfl, by omega, by omega, ShR.keep hown HB.out hks HS.out ho1' hg1 (by omega) (by rw [s0_close hlt HCL.out, if_neg (by omega)])⟩
                  case measure => simp [intOf]; omega
            · have e93 : (t k == 93) = false := by simp; omega
              have e125 : (t k == 125) = false := by simp; omega
              have HNB : Hid (nb (t k) = true) := by show nb (t k) = true; simp [nb]; omega
              clear c34 cop ccl
              by_cases hin : dep ≤ o
              · go_wp2_with fail
                go_roundw
                case rel => exact ⟨k + 1, 0, o, by omega, by omega, by go_num, rfl, rfl, by omega, by omega, hHR.out.drop (by omega) (by rw [s0_other hlt HNB.out, kp_hi hin])⟩
                case measure => simp [intOf]; omega
              · go_wp2_with (at_builtin; refine wpList_append_own _ rfl (.tmp 83) (.tmp 85) 22 rfl w.heap.size 5 i0 (.int .u8 0) 1 1 Try.underlying22 hi hz0 hz1 hz2 rfl (by decide) u5 ks.length (ks.map (Value.int .u8)) rfl (hown.alloc _) ⟨wr.heap.size, 0, none⟩ 1 1 [.int .u8 (t k)] rfl rfl (cell_one_new _ _ _) (by intro u hu; simp at hu; subst hu; rfl) (by unfold maxLen; omega) (by omega) (by simp; omega) ?_; intro v1 w1 ho1' hg1 _)
                go_roundw
                case rel => exact ⟨k + 1, 0, o, by omega, by omega, by go_num, rfl, rfl, by omega, by omega, ShR.keep hown HB.out hks HS.out ho1' hg1 (by omega) (by rw [s0_other hlt HNB.out, kp_lo (by omega)])⟩
                case measure => simp [intOf]; omega
      · by_cases c92 : t k = 92
        · have e92 : (t k == 92) = true := by simp [c92]
          have e34 : (t k == 34) = false := by simp [c92]
          have H92 : Hid (t k = 92) := c92
          have hcx' : wr.cell? ⟨b, off + k, none⟩ = some (.int .u8 92) := by rw [hcx, c92]
          clear c92
          by_cases hl2 : k + 1 < n
          · have hcx2 : wr.cell? ⟨b, off + (k + 1), none⟩ = some (.int .u8 (t (k + 1))) := (HB.out.cell (p := ⟨b, off + (k + 1), none⟩) hb).trans (HC.out (k + 1) hl2)
            by_cases hin : dep ≤ o
            · go_wp2_with fail
              go_roundw
              case rel => exact ⟨k + 2, 1, o, by omega, by omega, by go_num, rfl, rfl, by omega, by omega, hHR.out.drop (by omega) (by rw [s1_esc hlt hl2 H92.out, kp_hi hin, kp_hi hin])⟩
              case measure => simp [intOf]; omega
            · go_wp2_with (first | (at_builtin; refine wpList_append_own _ rfl (.tmp 83) (.tmp 85) 22 rfl w.heap.size 5 i0 (.int .u8 0) 1 1 Try.underlying22 hi hz0 hz1 hz2 rfl (by decide) v1 (ks.length + 1) (ks.map (Value.int .u8) ++ [.int .u8 (t k)]) rfl (ho1'.alloc _) ⟨w1.heap.size, 0, none⟩ 1 1 [.int .u8 (t (k + 1))] rfl rfl (cell_one_new _ _ _) (by intro u hu; simp at hu; subst hu; rfl) (by unfold maxLen; omega) (by omega) (by simp; omega) ?_; intro v2 w2 ho2' hg2 _) | (at_builtin; refine wpList_append_own _ rfl (.tmp 39) (.tmp 41) 22 rfl w.heap.size 5 i0 (.int .u8 0) 1 1 Try.underlying22 hi hz0 hz1 hz2 rfl (by decide) u5 ks.length (ks.map (Value.int .u8)) rfl (hown.alloc _) ⟨wr.heap.size, 0, none⟩ 1 1 [.int .u8 (t k)] rfl rfl (cell_one_new _ _ _) (by intro u hu; simp at hu; subst hu; rfl) (by unfold maxLen; omega) (by omega) (by simp; omega) ?_; intro v1 w1 ho1' hg1 _; have hcy : w1.cell? ⟨b, off + (k + 1), none⟩ = some (.int .u8 (t (k + 1))) := two_cell HB.out hbase hown hg1 hb (HC.out (k + 1) hl2); have hb2 := two_size hbase hg1; have HG1 : Hid ((wr.alloc (.cells #[.int .u8 (t k)] 5)).grownBy w1 u5.ownBlock) := hg1; clear hg1))
              go_roundw
              case rel => exact ⟨k + 2, 1, o, by omega, by omega, by go_num, rfl, rfl, by omega, by omega, ShR.keep2 hown HB.out hks HS.out ho1' HG1.out ho2' hg2 (by omega) (by rw [s1_esc hlt hl2 H92.out, kp_lo (by omega), kp_lo (by omega), H92.out])⟩
              case measure => simp [intOf]; omega
          · skip
            by_cases hin : dep ≤ o
            · go_wp2_with fail
              go_roundw
              case rel => exact ⟨k + 1, 1, o, by omega, by omega, by go_num, rfl, rfl, by omega, by omega, hHR.out.drop (by omega) (by rw [s1_last hlt hl2 H92.out, kp_hi hin])⟩
              case measure => simp [intOf]; omega
            · go_wp2_with (at_builtin; refine wpList_append_own _ rfl (.tmp 83) (.tmp 85) 22 rfl w.heap.size 5 i0 (.int .u8 0) 1 1 Try.underlying22 hi hz0 hz1 hz2 rfl (by decide) u5 ks.length (ks.map (Value.int .u8)) rfl (hown.alloc _) ⟨wr.heap.size, 0, none⟩ 1 1 [.int .u8 (t k)] rfl rfl (cell_one_new _ _ _) (by intro u hu; simp at hu; subst hu; rfl) (by unfold maxLen; omega) (by omega) (by simp; omega) ?_; intro v1 w1 ho1' hg1 _)
              go_roundw
              case rel => exact ⟨k + 1, 1, o, by omega, by omega, by go_num, rfl, rfl, by omega, by omega, ShR.keep hown HB.out hks HS.out ho1' hg1 (by omega) (by rw [s1_last hlt hl2 H92.out, kp_lo (by omega)])⟩
              case measure => simp [intOf]; omega
        · have e92 : (t k == 92) = false := by simp [c92]
          by_cases c34 : t k = 34
          · have e34 : (t k == 34) = true := by simp [c34]
            have H34 : Hid (t k = 34) := c34
            clear c34 c92
            by_cases hin : dep ≤ o
            · go_wp2_with fail
              go_roundw
              case rel => exact ⟨k + 1, 0, o, by omega, by omega, by go_num, rfl, rfl, by omega, by omega, hHR.out.drop (by omega) (by rw [s1_quote hlt H34.out, kp_hi hin])⟩
              case measure => simp [intOf]; omega
            · go_wp2_with (at_builtin; refine wpList_append_own _ rfl (.tmp 83) (.tmp 85) 22 rfl w.heap.size 5 i0 (.int .u8 0) 1 1 Try.underlying22 hi hz0 hz1 hz2 rfl (by decide) u5 ks.length (ks.map (Value.int .u8)) rfl (hown.alloc _) ⟨wr.heap.size, 0, none⟩ 1 1 [.int .u8 (t k)] rfl rfl (cell_one_new _ _ _) (by intro u hu; simp at hu; subst hu; rfl) (by unfold maxLen; omega) (by omega) (by simp; omega) ?_; intro v1 w1 ho1' hg1 _)
              go_roundw
              case rel => exact ⟨k + 1, 0, o, by omega, by omega, by go_num, rfl, rfl, by omega, by omega, ShR.keep hown HB.out hks HS.out ho1' hg1 (by omega) (by rw [s1_quote hlt H34.out, kp_lo (by omega)])⟩
              case measure => simp [intOf]; omega
          · have e34 : (t k == 34) = false := by simp [c34]
            by_cases hin : dep ≤ o
            · go_wp2_with fail
              go_roundw
              case rel => exact ⟨k + 1, 1, o, by omega, by omega, by go_num, rfl, rfl, by omega, by omega, hHR.out.drop (by omega) (by rw [s1_other hlt c92 c34, kp_hi hin])⟩
              case measure => simp [intOf]; omega
            · go_wp2_with (at_builtin; refine wpList_append_own _ rfl (.tmp 83) (.tmp 85) 22 rfl w.heap.size 5 i0 (.int .u8 0) 1 1 Try.underlying22 hi hz0 hz1 hz2 rfl (by decide) u5 ks.length (ks.map (Value.int .u8)) rfl (hown.alloc _) ⟨wr.heap.size, 0, none⟩ 1 1 [.int .u8 (t k)] rfl rfl (cell_one_new _ _ _) (by intro u hu; simp at hu; subst hu; rfl) (by unfold maxLen; omega) (by omega) (by simp; omega) ?_; intro v1 w1 ho1' hg1 _)
              go_roundw
              case rel => exact ⟨k + 1, 1, o, by omega, by omega, by go_num, rfl, rfl, by omega, by omega, ShR.keep hown HB.out hks HS.out ho1' hg1 (by omega) (by rw [s1_other hlt c92 c34, kp_lo (by omega)])⟩
              case measure => simp [intOf]; omega
    · obtain ⟨ks, hown, hbl, hks, hsh⟩ := hR
      rw [S_nil hlt, sh_nil, List.append_nil] at hsh
      have HS : Hid (ks = sh dep (S t n 0) 0 0) := hsh
      clear hsh
      go_wp2_with fail
      go_ret
      exact ⟨_, rfl, by rw [← HS.out]; omega, by rw [← HS.out]; exact hown, hbl⟩

end Go.Proofs.Qxb6600283a
