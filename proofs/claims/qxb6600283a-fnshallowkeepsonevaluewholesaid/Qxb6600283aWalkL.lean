import Derived.Test.Qxb6600283aWalkK
namespace Go.Proofs.Qxb6600283a
open Go.RowKit Js
set_option linter.unusedVariables false
set_option linter.unusedSimpArgs false

set_option maxRecDepth 100000 in
theorem zb2_any (a : Option Addr) (n cap : Nat) (x : Int) (w : World) (hn : n ≤ 9223372036854775807) :
    Calls Try.prog 27 #[.slice a n cap, .int .i64 x] w fun e w' => e = .returned (.bool (decide (n ≤ 1048576))) ∧ w' = w := by
  by_cases h : n ≤ 1048576
  all_goals
    go_enter Try.func27, Try.ntmps27
    go_wp2
    go_ret
    exact ⟨ret_bool (by simp; omega), rfl⟩

theorem val0 (b off n cap : Nat) (t : Nat → Int) (hn : n ≤ 1048576) (F : Nat) (w : World) (hF : 2 * n + 1 ≤ F) (hc : Txt w b off n t) :
    Calls Try.prog 24 #[.slice (some ⟨b, off, none⟩) n cap, .int .i64 0] w fun e w' => ∃ x : Int, e = .returned (.int .i64 x) ∧ Res t n 0 (P F 0 (S t n 0)) x ∧ ∃ q, w' = w.drewN q :=
  val_any b off n cap t hn F 0 w (by omega) (by omega) hc

theorem zve0 (b off n cap : Nat) (t : Nat → Int) (e : Nat) (w : World) (hn : n ≤ 1048576) (hcap : n ≤ cap) (hr : ∀ i, i < n → 0 ≤ t i ∧ t i < 256) (hi : 0 < n) (he : e ≤ n) (h : VE t n 0 e) (hc : Txt w b off n t) :
    Calls Try.prog 26 #[.slice (some ⟨b, off, none⟩) n cap, .int .i64 0] w fun e' w' => e' = .returned (.int .i64 (e : Nat)) ∧ w' = w :=
  zve_any b off n cap t 0 e w hn hcap hr hi he h hc

set_option maxRecDepth 100000 in
theorem val_empty (a : Option Addr) (cap : Nat) (w : World) : Calls Try.prog 24 #[.slice a 0 cap, .int .i64 0] w fun e w' => e = .returned (.int .i64 (-1)) ∧ w' = w := by
  go_enter Try.func24, Try.ntmps24
  go_wp2
  go_ret
  exact ⟨rfl, rfl⟩

theorem S_list (L : List Int) : S (fun i => L.getD i 0) L.length 0 = L := by
  unfold S
  apply List.ext_getElem
  · simp
  · intro i h1 h2
    simp [List.getD_eq_getElem?_getD, h2]

theorem sh_mem {dep : Int} : ∀ (l : List Int) (o : Int) (m : Nat) (c : Int), c ∈ sh dep l o m → c ∈ l := by
  intro l
  induction l with
  | nil => intro o m c h; rw [sh_nil] at h; exact h
  | cons x r ih =>
    intro o m c h
    have hk : ∀ o' m', c ∈ kp dep o x (sh dep r o' m') → c ∈ x :: r := fun o' m' h => by
      unfold kp at h
      split at h
      · exact List.mem_cons_of_mem _ (ih _ _ _ h)
      · rcases List.mem_cons.1 h with h | h
        · simp [h]
        · exact List.mem_cons_of_mem _ (ih _ _ _ h)
    have hk2 : ∀ o' m', c ∈ x :: sh dep r o' m' → c ∈ x :: r := fun o' m' h => by
      rcases List.mem_cons.1 h with h | h
      · simp [h]
      · exact List.mem_cons_of_mem _ (ih _ _ _ h)
    match m, h with
    | 0, h => rw [sh] at h
              repeat' split at h
              all_goals first | exact hk _ _ h | exact hk2 _ _ h | exact List.mem_cons_of_mem _ (ih _ _ _ h)
    | 1, h => rw [sh] at h; exact hk _ _ h
    | m + 2, h => rw [sh] at h; exact hk _ _ h
theorem S_mem {t : Nat → Int} {n i : Nat} {c : Int} (h : c ∈ S t n i) : ∃ k, k < n ∧ c = t k := by
  unfold S at h
  obtain ⟨k, h1, h2⟩ := List.mem_map.1 h
  have := List.mem_range'.1 h1
  exact ⟨k, by omega, h2.symm⟩

/-- the row that Shallow hands back, not empty: where it lies -/
theorem own_row {w : World} {base : Nat} {v : Value} {L : List Int} (hL : 0 < L.length) (h : w.ownsRow base 5 1 v L.length (L.map (Value.int .u8))) :
    ∃ g cap, v = .slice (some ⟨g, 0, none⟩) L.length cap ∧ L.length ≤ cap ∧ Txt w g 0 L.length (fun i => L.getD i 0) := by
  have h' := h
  rcases h with ⟨_, ⟨rfl, h0⟩ | ⟨g, cap, cur, rfl, hb, _, hcap, _⟩⟩
  · omega
  · refine ⟨g, cap, rfl, hcap, fun i hi => ?_⟩
    have := h'.cellAt i (by omega)
    rw [Nat.zero_add, this]
    simp [List.getD_eq_getElem?_getD, hi]

set_option maxRecDepth 100000 in
set_option maxHeartbeats 1600000 in
theorem law2 (b off n cap : Nat) (t : Nat → Int) (dep : Int) (w : World) (hn : n ≤ 1048576) (hn0 : 0 < n) (hd1 : 1 ≤ dep) (hd2 : dep ≤ 9223372036854775807) (hb : b < w.heap.size) (hr : ∀ i, i < n → 0 ≤ t i ∧ t i < 256) (hc : Txt w b off n t) :
    Calls Try.prog 10 #[.slice (some ⟨b, off, none⟩) n cap, .int .i64 dep] w fun e w' => e = .returned (.bool true) ∧ Below w.heap.size w w' := by
  have HR : Hid (∀ i, i < n → 0 ≤ t i ∧ t i < 256) := hr
  clear hr
  go_enter Try.func10, Try.ntmps10
  go_wp2_with fail
  refine (zb2_any (some ⟨b, off, none⟩) n cap dep _ (by omega)).mono ?_
  rintro e w' ⟨rfl, rfl⟩
  have hdec : decide (n ≤ 1048576) = true := by simp; omega
  go_wp2_with fail
  refine (val0 b off n cap t hn (2 * n + 2) _ (by omega) hc).mono ?_
  rintro e w2 ⟨x, rfl, hres, q, rfl⟩
  have HB0 : Hid (Below w'.heap.size w' (w'.drewN q)) := bel_drewN (Below.refl _ _) q
  by_cases hx : x = n
  · have hx' : (x != (n : Int)) = false := by simp [hx]
    have HP : Hid (P (2 * n + 2) 0 (S t n 0) = some []) := by
      show P (2 * n + 2) 0 (S t n 0) = some []
      rcases hres with ⟨_, h⟩ | ⟨j, h1, h2, h3, h4⟩
      · omega
      · have : j = n := by omega
        rw [h1, S_nil (by omega)]
    have HX : Hid (x = n) := hx
    clear hres hx
    go_wp2_with fail
    refine (clone_any b off n cap t _ hn (by exact hb) (by exact hc)).mono ?_
    rintro e w3 ⟨rfl, hrow, hbel⟩
    have HB1 : Hid (Below w'.heap.size w' w3) := HB0.out.trans hbel
    have hT := Txt.of_row hrow
    have hlt : (w'.drewN q).heap.size < w3.heap.size := hrow.lt
    clear hrow hbel HB0
    go_wp2_with fail
    refine (shallow_any _ 0 n n t dep _ hn (by exact hlt) hd1 hd2 hT).mono ?_
    rintro e w4 ⟨v, rfl, hlen, hown, hbel⟩
    obtain ⟨L, hL⟩ : ∃ L, L = sh dep (S t n 0) 0 0 := ⟨_, rfl⟩
    rw [← hL] at hlen hown
    have hPL : P (2 * n + 2) 0 L = some [] := by
      have := ((P_sh dep (2 * n + 2)).1 0 (S t n 0) [] HP.out).1 (by omega)
      rw [← hL, sh_nil] at this
      exact this
    have hL0 : 0 < L.length := by
      cases L with
      | nil => simp [P, un] at hPL
      | cons c L => simp
    have hrL : ∀ i, i < L.length → 0 ≤ L.getD i 0 ∧ L.getD i 0 < 256 := by
      intro i hi
      have hm : L.getD i 0 ∈ L := by
        rw [List.getD_eq_getElem?_getD, List.getElem?_eq_getElem hi]
        exact List.getElem_mem _
      rw [hL] at hm
      obtain ⟨k, hk, e⟩ := S_mem (sh_mem _ _ _ _ hm)
      rw [← hL] at e
      rw [e]
      exact HR.out k hk
    obtain ⟨g, cap', rfl, hcap, hTL⟩ := own_row hL0 hown
    have hSL := S_list L
    have hS0 : S (fun i => L.getD i 0) L.length L.length = [] := S_nil (by omega)
    have HVE : Hid (VE (fun i => L.getD i 0) L.length 0 L.length) := VE_of_P (f := 2 * n + 2) hL0 (Nat.le_refl _) (by rw [hSL, hS0]; exact hPL) (.inr (.inr (.inr (.inl rfl))))
    have HPL : Hid (P (2 * n + 2) 0 (S (fun i => L.getD i 0) L.length 0) = some []) := by
      show P (2 * n + 2) 0 (S (fun i => L.getD i 0) L.length 0) = some []
      rw [hSL]; exact hPL
    have HRL : Hid (∀ i, i < L.length → 0 ≤ L.getD i 0 ∧ L.getD i 0 < 256) := hrL
    have HTL : Hid (Txt w4 g 0 L.length (fun i => L.getD i 0)) := hTL
    have HB2 : Hid (Below w'.heap.size w' w4) := HB1.out.trans (hbel.mono (by have := HB1.out.size; exact this))
    obtain ⟨nL, hnL⟩ : ∃ nL, nL = L.length := ⟨_, rfl⟩
    obtain ⟨tL, htL⟩ : ∃ tL : Nat → Int, tL = fun i => L.getD i 0 := ⟨_, rfl⟩
    rw [← hnL, ← htL] at HVE HPL HTL
    have HRL' : Hid (∀ i, i < nL → 0 ≤ tL i ∧ tL i < 256) := by rw [hnL, htL]; exact HRL
    rw [← hnL] at hlen hL0 hcap ⊢
    clear hT hTL hrL hSL hS0 hPL hL hown hbel HRL hnL htL HB1
    go_wp2_with fail
    refine (val0 g 0 nL cap' tL (by omega) (2 * n + 2) _ (by omega) HTL.out).mono ?_
    rintro e w5 ⟨y, rfl, hres, q2, rfl⟩
    have hy : y = nL := by
      rcases hres with ⟨h, _⟩ | ⟨j, h1, h2, h3, h4⟩
      · rw [HPL.out] at h; simp at h
      · rw [HPL.out] at h1
        have := congrArg List.length (Option.some.inj h1)
        rw [S_length] at this
        simp at this
        omega
    subst hy
    clear hres
    have hne : (((nL : Nat) : Int) != (nL : Int)) = false := by simp
    go_wp2_with fail
    refine (zve0 g 0 nL cap' tL nL _ (by omega) hcap HRL'.out hL0 (Nat.le_refl _) HVE.out (by exact HTL.out)).mono ?_
    rintro e w6 ⟨rfl, rfl⟩
    go_wp2_with fail
    go_ret
    exact ⟨ret_bool (by simp), bel_drewN HB2.out q2⟩
  · have hx' : (x != (n : Int)) = true := by simp [hx]
    go_wp2_with fail
    go_ret
    exact ⟨rfl, HB0.out⟩

end Go.Proofs.Qxb6600283a
