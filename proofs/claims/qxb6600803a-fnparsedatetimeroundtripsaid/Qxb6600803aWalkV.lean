import Derived.Test.Qxb6600803aWalkT
namespace Go.Proofs.Qxb6600803a
open Go.RowKit Tm
set_option linter.unusedVariables false
set_option linter.unusedSimpArgs false

theorem RZ1 (y mo d : Nat) (hy : y ≤ 9999) (h1 : 1 ≤ mo) (h2 : mo ≤ 12) (h3 : 1 ≤ d) (h4 : d ≤ 31) (h5 : d ≤ dys y mo) {K : List Int} {p h m nn : Int} (ck : Ck K p h m nn) : PD (dt3 y mo d ++ [84] ++ K ++ [90]) 6 p y mo d h m nn true 0 := by
  have H := RZ y mo d hy h1 h2 h3 h4 h5 ck 90 [] 0 (.inl rfl) (fun x hx => by simp at hx) (by simp) po_z
  rw [← List.append_assoc] at H
  exact H
theorem of_bytes (h m : Nat) : ∀ x ∈ dgt 2 h ++ [58] ++ dgt 2 m, 0 ≤ x ∧ x < 256 := fun x hx => Of_byte (.inl rfl) h m x (List.mem_cons_of_mem _ hx)
theorem RZp (y mo d : Nat) (hy : y ≤ 9999) (h1 : 1 ≤ mo) (h2 : mo ≤ 12) (h3 : 1 ≤ d) (h4 : d ≤ 31) (h5 : d ≤ dys y mo) {K : List Int} {p h m nn : Int} (ck : Ck K p h m nn) (O : Nat) (hO : O ≤ 899) : PD (dt3 y mo d ++ [84] ++ K ++ [43] ++ dgt 2 (O / 60) ++ [58] ++ dgt 2 (O % 60)) 6 p y mo d h m nn true O := by
  have H := RZ y mo d hy h1 h2 h3 h4 h5 ck 43 (dgt 2 (O / 60) ++ [58] ++ dgt 2 (O % 60)) O (.inr (.inl rfl)) (of_bytes _ _) (by simp [dgt_length]) (fun w => (po_s 43 (.inl rfl) (O / 60) (O % 60) w (by omega) (by omega)).mono (by
    rintro e w' ⟨rfl, hb⟩
    refine ⟨?_, hb⟩
    have e1 : ((if (43 : Int) = 45 then -1 else 1) * (60 * ((O / 60 : Nat) : Int) + ((O % 60 : Nat) : Int))) = O := by rw [if_neg (by decide)]; omega
    rw [e1]))
  have e : dt3 y mo d ++ [84] ++ K ++ [43] ++ dgt 2 (O / 60) ++ [58] ++ dgt 2 (O % 60) = dt3 y mo d ++ [84] ++ (K ++ (43 :: (dgt 2 (O / 60) ++ [58] ++ dgt 2 (O % 60)))) := by simp
  rw [e]
  exact H
theorem RZm (y mo d : Nat) (hy : y ≤ 9999) (h1 : 1 ≤ mo) (h2 : mo ≤ 12) (h3 : 1 ≤ d) (h4 : d ≤ 31) (h5 : d ≤ dys y mo) {K : List Int} {p h m nn : Int} (ck : Ck K p h m nn) (O : Nat) (hO : O ≤ 899) : PD (dt3 y mo d ++ [84] ++ K ++ [45] ++ dgt 2 (O / 60) ++ [58] ++ dgt 2 (O % 60)) 6 p y mo d h m nn true (-(O : Int)) := by
  have H := RZ y mo d hy h1 h2 h3 h4 h5 ck 45 (dgt 2 (O / 60) ++ [58] ++ dgt 2 (O % 60)) (-(O : Int)) (.inr (.inr rfl)) (of_bytes _ _) (by simp [dgt_length]) (fun w => (po_s 45 (.inr rfl) (O / 60) (O % 60) w (by omega) (by omega)).mono (by
    rintro e w' ⟨rfl, hb⟩
    refine ⟨?_, hb⟩
    have e1 : ((if (45 : Int) = 45 then -1 else 1) * (60 * ((O / 60 : Nat) : Int) + ((O % 60 : Nat) : Int))) = -(O : Int) := by rw [if_pos rfl]; omega
    rw [e1]))
  have e : dt3 y mo d ++ [84] ++ K ++ [45] ++ dgt 2 (O / 60) ++ [58] ++ dgt 2 (O % 60) = dt3 y mo d ++ [84] ++ (K ++ (45 :: (dgt 2 (O / 60) ++ [58] ++ dgt 2 (O % 60)))) := by simp
  rw [e]
  exact H

end Go.Proofs.Qxb6600803a
