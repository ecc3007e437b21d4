import Derived.Test.Qxb6600543aWalkA
import Derived.Deep.OwnRows
import Derived.Maps.AppendAt
namespace Go.Proofs.Qxb6600543a
open Go.RowKit Ex
set_option linter.unusedVariables false
set_option linter.unusedSimpArgs false

theorem info5 : (Try.prog.info? 5).map (fun i => (i.zero, i.size, i.bytes)) = some (some (Value.int IntKind.u8 0), 1, 1) := by kernel_rfl

/-- what is owned below A stays owned -/
theorem own_below {w wr : World} {A base g k cap : Nat} {xs : List Value} (h : w.ownsRow base 5 1 (.slice (some ⟨g, 0, none⟩) k cap) k xs) (hb : Below A w wr) (hg : g < A) : wr.ownsRow base 5 1 (.slice (some ⟨g, 0, none⟩) k cap) k xs := by
  obtain ⟨h1, h2⟩ := h
  refine ⟨h1, ?_⟩
  rcases h2 with h2 | ⟨g', cap', cur, e, r1, r2, r3⟩
  · exact .inl h2
  · obtain ⟨e1, e2, e3⟩ : g = g' ∧ k = k ∧ cap = cap' := by simpa using e
    subst e1
    exact .inr ⟨g, cap', cur, e, r1, by rw [hb.block g hg]; exact r2, r3⟩
theorem own_lt {w : World} {base g k cap : Nat} {xs : List Value} (h : w.ownsRow base 5 1 (.slice (some ⟨g, 0, none⟩) k cap) k xs) : base ≤ g ∧ g < w.heap.size := by
  obtain ⟨h1, h2⟩ := h
  rcases h2 with ⟨h2, _⟩ | ⟨g', cap', cur, e, r1, r2, r3⟩
  · simp at h2
  · obtain ⟨e1, e2, e3⟩ : g = g' ∧ k = k ∧ cap = cap' := by simpa using e
    subst e1
    refine ⟨r1, ?_⟩
    by_cases hlt : g < w.heap.size
    · exact hlt
    · rw [Array.getElem?_eq_none (by omega)] at r2; simp at r2
theorem row_grown {w w' : World} {b t n g : Nat} {f : Nat → Value} {ob : Obj} (h : w.rowIs b t n f) (hg : (w.alloc ob).grownBy w' (some g)) (hne : b ≠ g) : w'.rowIs b t n f :=
  (h.alloc ob).of_block (hg.block b (by have := h.lt; simp; omega) (by simpa using hne))
theorem grown_trans {a b c : World} {g : Nat} (h : a.grownBy b (some g)) (k : b.grownBy c (some g)) : a.grownBy c (some g) :=
  ⟨k.os.trans h.os, k.tape.trans h.tape, k.output.trans h.output, Nat.le_trans h.size k.size, fun i hi hne => (k.block i (Nat.lt_of_lt_of_le hi h.size) hne).trans (h.block i hi hne)⟩
theorem grown_below {a b : World} {g : Nat} (h : Below a.heap.size a b) : a.grownBy b (some g) := ⟨h.os, h.tape, h.output, h.size, fun i hi _ => h.block i hi⟩
theorem grown_alloc {a b : World} {g : Nat} (h : a.grownBy b (some g)) (o : Obj) : a.grownBy (b.alloc o) (some g) :=
  ⟨h.os, h.tape, h.output, Nat.le_trans h.size (by simp), fun i hi hne => by rw [Below.heap_alloc _ _ _ (Nat.lt_of_lt_of_le hi h.size)]; exact h.block i hi hne⟩

theorem lsd_ne (f v : Nat) : lsd (f + 1) v = (48 + (v : Int) % 10) :: (if v / 10 = 0 then [] else lsd f (v / 10)) := rfl

set_option maxRecDepth 100000 in
set_option maxHeartbeats 1600000 in
theorem au_any (base g k cap : Nat) (xs : List Int) (x : Nat) (w : World) (hx : x < 18446744073709551616) (hk : k ≤ 100000) (hcap : k + 20 ≤ cap) (hbase : base ≤ w.heap.size) (hown : w.ownsRow base 5 1 (.slice (some ⟨g, 0, none⟩) k cap) k (xs.map (Value.int .u8))) :
    Calls Try.prog 12 #[.slice (some ⟨g, 0, none⟩) k cap, .int .u64 x] w fun e w' => e = .returned (.slice (some ⟨g, 0, none⟩) (k + (lsd 20 x).length) cap) ∧ w'.ownsRow base 5 1 (.slice (some ⟨g, 0, none⟩) (k + (lsd 20 x).length) cap) (k + (lsd 20 x).length) ((xs ++ (lsd 20 x).reverse).map (Value.int .u8)) ∧ w.grownBy w' (some g) := by
  obtain ⟨i0, hi, hz0, hz1, hz2⟩ := info_parts info5
  have hgl := own_lt hown
  have HO : Hid (w.ownsRow base 5 1 (.slice (some ⟨g, 0, none⟩) k cap) k (xs.map (Value.int .u8))) := hown
  have hL20 := lsd_length 20 x
  have hp20 : x < 10 ^ 20 := Nat.lt_of_lt_of_le hx (by decide)
  have HP20 : Hid (x < 10 ^ 20) := hp20
  clear hown hp20
  go_enter Try.func12, Try.ntmps12
  go_wp2_with fail
  go_loopw [1, 6] (fun vv vn wr => ∃ (n v : Nat) (dn : List Int), n ≤ 19 ∧ dn.length = n ∧ v < 18446744073709551616 ∧ vv = .int .u64 v ∧ vn = .int .i64 n ∧ v < 10 ^ (20 - n) ∧ lsd 20 x = dn ++ lsd (20 - n) v ∧ Hid (wr.rowIs w.heap.size 31 20 (fun j => if j < n then .int .u8 (dn.getD j 0) else .int .u8 0)) ∧ Hid (Below w.heap.size w wr)) (fun _ vn _ => 20 - (intOf vn).toNat)
  case atStart =>
    refine ⟨0, x, [], by omega, rfl, hx, rfl, rfl, HP20.out, rfl, ?_, (Below.refl _ _).alloc (Nat.le_refl _) _⟩
    refine (World.rowIs_alloc w _ 31 (fun _ => .int .u8 0) ?_).congr (fun j _ => by simp)
    intro i hi
    show (Array.replicate 20 (Value.int .u8 0))[i]? = _
    rw [Array.getElem?_replicate, if_pos (by simpa using hi)]
  case round =>
    obtain ⟨n, v, dn, hn, hdn, hv, rfl, rfl, hv10, hlsd, hrw, hbl⟩ := hrel
    have hf1 : wr.frozen? ⟨w.heap.size, n, none⟩ = false := hrw.out.frozen _
    obtain ⟨v0, hv0⟩ : ∃ v0, wr.cell? ⟨w.heap.size, n, none⟩ = some v0 := ⟨_, hrw.out.cell (i := n) (by omega)⟩
    have HL : Hid (lsd 20 x = dn ++ lsd (20 - n) v) := hlsd
    have HV : Hid (v < 10 ^ (20 - n)) := hv10
    have HDN : Hid (dn.length = n) := hdn
    clear hlsd hv10 hdn
    go_wp2_with fail
    · rename ((v : Int) / 10 == 0) = true => hq
      have hq0 : v / 10 = 0 := by simp at hq; omega
      obtain ⟨D, hD⟩ : ∃ D, D = dn ++ [48 + (v : Int) % 10] := ⟨_, rfl⟩
      have hDL : D.length = n + 1 := by rw [hD, List.length_append, HDN.out]; rfl
      have hDx : lsd 20 x = D := by rw [HL.out, show 20 - n = (19 - n) + 1 by omega, lsd_ne, if_pos hq0, hD]
      have HDX : Hid (lsd 20 x = D) := hDx
      have hrow : (wr.setCell ⟨w.heap.size, n, none⟩ (.int .u8 (48 + (v : Int) % 10))).rowIs w.heap.size 31 20 (fun j => if j < n + 1 then .int .u8 (D.getD j 0) else .int .u8 0) :=
        (hrw.out.set n _).congr (fun j hj => by
          rw [hD]
          by_cases h1 : j = n
          · subst h1
            rw [if_pos rfl, if_pos (by omega), List.getD_eq_getElem?_getD, List.getElem?_append_right (by rw [HDN.out]; omega), HDN.out]
            simp
          · rw [if_neg h1]
            by_cases h2 : j < n
            · rw [if_pos h2, if_pos (by omega), List.getD_eq_getElem?_getD, List.getD_eq_getElem?_getD, List.getElem?_append_left (by rw [HDN.out]; omega)]
            · rw [if_neg h2, if_neg (by omega)])
      have hb2 : Below w.heap.size w (wr.setCell ⟨w.heap.size, n, none⟩ (.int .u8 (48 + (v : Int) % 10))) := hbl.out.setCell (Nat.le_refl _) _
      have HRW : Hid ((wr.setCell ⟨w.heap.size, n, none⟩ (.int .u8 (48 + (v : Int) % 10))).rowIs w.heap.size 31 20 (fun j => if j < n + 1 then .int .u8 (D.getD j 0) else .int .u8 0)) := hrow
      have HOW : Hid ((wr.setCell ⟨w.heap.size, n, none⟩ (.int .u8 (48 + (v : Int) % 10))).ownsRow base 5 1 (.slice (some ⟨g, 0, none⟩) k cap) k (xs.map (Value.int .u8))) := own_below HO.out hb2 hgl.2
      have HGR : Hid (w.grownBy (wr.setCell ⟨w.heap.size, n, none⟩ (.int .u8 (48 + (v : Int) % 10))) (some g)) := grown_below hb2
      have HDL : Hid (D.length = n + 1) := hDL
      clear hq hq0 hD hDx hrow hb2 hrw hbl HL HV HDN hf1 hv0 HO hL20 hDL
      go_loopw [0, 6] (fun vv vn w2 => ∃ (m kk : Nat), m ≤ n + 1 ∧ kk + m ≤ k + (n + 1) ∧ k + (n + 1) ≤ kk + m ∧ vn = .int .i64 m ∧ vv = .slice (some ⟨g, 0, none⟩) kk cap ∧ Hid (w2.ownsRow base 5 1 (.slice (some ⟨g, 0, none⟩) kk cap) kk ((xs ++ (D.drop m).reverse).map (Value.int .u8))) ∧ Hid (w2.rowIs w.heap.size 31 20 (fun j => if j < n + 1 then .int .u8 (D.getD j 0) else .int .u8 0)) ∧ Hid (w.grownBy w2 (some g))) (fun _ vn _ => (intOf vn).toNat)
      case atStart => exact ⟨n + 1, k, by omega, by omega, by omega, by go_num, rfl, by rw [List.drop_of_length_le (by rw [HDL.out]; omega)]; simpa using HOW, HRW, HGR⟩
      case round =>
        obtain ⟨m, kk, hm, hk1, hk2, rfl, rfl, how, hrw, hgr⟩ := hrel
        by_cases hm0 : 0 < m
        · have hown := how.out
          have hcx : wr.cell? ⟨w.heap.size, m - 1, none⟩ = some (.int .u8 (D.getD (m - 1) 0)) := by
            have := hrw.out.cell (i := m - 1) (by omega)
            rw [this]; simp [show m - 1 < n + 1 by omega]
          obtain ⟨c, hc⟩ : ∃ c, c = D.getD (m - 1) 0 := ⟨_, rfl⟩
          rw [← hc] at hcx
          have HC : Hid (c = D.getD (m - 1) 0) := hc
          clear hc
          go_wp2_with (at_builtin; refine wpList_append_fits _ rfl (.tmp 23) (.tmp 27) 27 rfl base 5 i0 1 Try.underlying27 hi hz1 g kk cap _ rfl (hown.alloc _) ⟨wr.heap.size, 0, none⟩ 1 1 [.int .u8 c] rfl rfl (cell_one_new _ _ _) (by intro u hu; simp at hu; subst hu; rfl) (by omega) ?_; intro w3 hown3 hgrow3)
          go_roundw
          case rel =>
            refine ⟨m - 1, kk + 1, by omega, by omega, by omega, by go_num, rfl, ?_, row_grown hrw.out hgrow3 (by omega), grown_trans (grown_alloc hgr.out _) hgrow3⟩
            show World.ownsRow _ _ _ _ _ _ _
            have : D.drop (m - 1) = c :: D.drop m := by
              rw [HC.out, List.drop_eq_getElem_cons (by rw [HDL.out]; omega), List.getD_eq_getElem?_getD, List.getElem?_eq_getElem (by rw [HDL.out]; omega), show m - 1 + 1 = m by omega]
              rfl
            rw [this]
            simpa using hown3
          case measure => simp [intOf]; omega
        · have hkk : kk = k + (n + 1) := by omega
          have hmz : m = 0 := by omega
          have HF : Hid (wr.ownsRow base 5 1 (.slice (some ⟨g, 0, none⟩) kk cap) kk ((xs ++ D.reverse).map (Value.int .u8))) := by
            rw [hmz] at how; exact how
          have HKK : Hid (kk = k + (n + 1)) := hkk
          clear hkk hmz how
          go_wp2_with fail
          go_ret
          exact ⟨by rw [HDX.out, HDL.out, HKK.out]; rfl, by rw [HDX.out, HDL.out, ← HKK.out]; exact HF.out, hgr.out⟩
    · have hq : ((v : Int) / 10 == 0) = false := by assumption
      have hq0 : ¬ v / 10 = 0 := by simp at hq; omega
      have hn18 : n ≤ 18 := by
        by_cases h : n = 19
        · exfalso
          have := HV.out
          rw [h] at this
          simp at this
          omega
        · omega
      go_roundw
      case rel =>
        refine ⟨n + 1, v / 10, dn ++ [48 + (v : Int) % 10], by omega, by rw [List.length_append, HDN.out]; rfl, by omega, by go_num, by go_num, ?_, ?_, ?_, hbl.out.setCell (Nat.le_refl _) _⟩
        · have := HV.out
          rw [show 20 - n = (20 - (n + 1)) + 1 by omega, Nat.pow_succ] at this
          omega
        · rw [HL.out, show 20 - n = (20 - (n + 1)) + 1 by omega, lsd_ne, if_neg hq0, List.append_assoc]
          rfl
        · refine (hrw.out.set n _).congr (fun j hj => ?_)
          by_cases h1 : j = n
          · subst h1
            rw [if_pos rfl, if_pos (by omega), List.getD_eq_getElem?_getD, List.getElem?_append_right (by rw [HDN.out]; omega), HDN.out]
            simp
          · rw [if_neg h1]
            by_cases h2 : j < n
            · rw [if_pos h2, if_pos (by omega), List.getD_eq_getElem?_getD, List.getD_eq_getElem?_getD, List.getElem?_append_left (by rw [HDN.out]; omega)]
            · rw [if_neg h2, if_neg (by omega)]
      case measure => simp [intOf]; omega

end Go.Proofs.Qxb6600543a
