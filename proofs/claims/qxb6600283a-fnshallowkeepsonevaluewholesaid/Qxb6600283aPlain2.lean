/-
  PLAIN, MORE: the parser unrolled, a step a lemma.
-/
import Derived.Test.Qxb6600283aPlain
namespace Go.Proofs.Qxb6600283a.Js
section
variable {t : Nat → Int} {n j : Nat}
theorem un_stop (h : ¬ j < n) (k : Int → List Int → Option (List Int)) : un (S t n j) k = none := by rw [S_nil h]; rfl
theorem un_go (h : j < n) (k : Int → List Int → Option (List Int)) : un (S t n j) k = k (t j) (S t n (j + 1)) := by rw [S_cons h]; rfl
theorem P_zero_stop (h : ¬ j < n) (g : Nat) : P g 0 (S t n j) = none := by
  cases g with
  | zero => rfl
  | succ g => rw [P, un_stop h]

/-- behind an element: 'c' closes (93; 125), m: 1; 2 -/
def tailA (g m : Nat) (c : Int) (r : List Int) : Option (List Int) := un (sp r) fun x r' => if x = c then some r' else if x = 44 then P g m (sp r') else none
theorem tailA_stop {j2 g m : Nat} {c : Int} (e : sp (S t n j) = S t n j2) (h : ¬ j2 < n) : tailA g m c (S t n j) = none := by rw [tailA, e, un_stop h]
theorem tailA_close {j2 g m : Nat} {c : Int} (e : sp (S t n j) = S t n j2) (h : j2 < n) (hc : t j2 = c) : tailA g m c (S t n j) = some (S t n (j2 + 1)) := by rw [tailA, e, un_go h]; simp [hc]
theorem tailA_bad {j2 g m : Nat} {c : Int} (e : sp (S t n j) = S t n j2) (h : j2 < n) (hc : ¬ t j2 = c) (h4 : ¬ t j2 = 44) : tailA g m c (S t n j) = none := by rw [tailA, e, un_go h]; simp [hc, h4]
theorem tailA_next {j2 j3 g m : Nat} {c : Int} (e : sp (S t n j) = S t n j2) (h : j2 < n) (hc : ¬ t j2 = c) (h4 : t j2 = 44) (e3 : sp (S t n (j2 + 1)) = S t n j3) : tailA g m c (S t n j) = P g m (S t n j3) := by
  rw [tailA, e, un_go h, if_neg hc, if_pos h4, e3]

theorem P_one (g : Nat) (l : List Int) : P (g + 1) 1 l = (P g 0 l).bind (tailA g 1 93) := rfl
theorem P_one_stop (h : ¬ j < n) (g : Nat) : P g 1 (S t n j) = none := by
  cases g with
  | zero => rfl
  | succ g => rw [P_one, P_zero_stop h]; rfl

/-- behind a member's name -/
def valA (g : Nat) (r1 : List Int) : Option (List Int) := un (sp r1) fun x r2 => if x = 58 then (P g 0 (sp r2)).bind (tailA g 2 125) else none
theorem P_two_stop (h : ¬ j < n) (g : Nat) : P g 2 (S t n j) = none := by
  cases g with
  | zero => rfl
  | succ g => rw [P, un_stop h]
theorem P_two_no (h : j < n) (e : ¬ t j = 34) (g : Nat) : P g 2 (S t n j) = none := by
  cases g with
  | zero => rfl
  | succ g => rw [P, un_go h, if_neg e]
theorem P_two (h : j < n) (e : t j = 34) (g : Nat) : P (g + 1) 2 (S t n j) = (ps (S t n (j + 1)) 0).bind (valA g) := by
  rw [P, un_go h, if_pos e]; rfl
theorem valA_stop {j2 g : Nat} (e : sp (S t n j) = S t n j2) (h : ¬ j2 < n) : valA g (S t n j) = none := by rw [valA, e, un_stop h]
theorem valA_no {j2 g : Nat} (e : sp (S t n j) = S t n j2) (h : j2 < n) (hc : ¬ t j2 = 58) : valA g (S t n j) = none := by rw [valA, e, un_go h, if_neg hc]
theorem valA_go {j2 j3 g : Nat} (e : sp (S t n j) = S t n j2) (h : j2 < n) (hc : t j2 = 58) (e3 : sp (S t n (j2 + 1)) = S t n j3) : valA g (S t n j) = (P g 0 (S t n j3)).bind (tailA g 2 125) := by rw [valA, e, un_go h, if_pos hc, e3]

/-- behind an opening bracket -/
def openA (g m : Nat) (c : Int) (r : List Int) : Option (List Int) := un (sp r) fun x r' => if x = c then some r' else P g m (sp r)
theorem openA_stop {j2 g m : Nat} {c : Int} (e : sp (S t n j) = S t n j2) (h : ¬ j2 < n) : openA g m c (S t n j) = none := by rw [openA, e, un_stop h]
theorem openA_close {j2 g m : Nat} {c : Int} (e : sp (S t n j) = S t n j2) (h : j2 < n) (hc : t j2 = c) : openA g m c (S t n j) = some (S t n (j2 + 1)) := by rw [openA, e, un_go h, if_pos hc]
theorem openA_go {j2 g m : Nat} {c : Int} (e : sp (S t n j) = S t n j2) (h : j2 < n) (hc : ¬ t j2 = c) : openA g m c (S t n j) = P g m (S t n j2) := by rw [openA, e, un_go h, if_neg hc]

theorem P_zero (h : j < n) (g : Nat) : P (g + 1) 0 (S t n j) = (if t j = 34 then ps (S t n (j + 1)) 0 else if t j = 91 then openA g 1 93 (S t n (j + 1)) else if t j = 123 then openA g 2 125 (S t n (j + 1))
    else if t j = 116 then pw [116, 114, 117, 101] (S t n j) else if t j = 102 then pw [102, 97, 108, 115, 101] (S t n j) else if t j = 110 then pw [110, 117, 108, 108] (S t n j) else pn (S t n j)) := by
  rw [P, un_go h]; rfl
end
end Go.Proofs.Qxb6600283a.Js
