/- The plain law of tridiagonalEigenvector: a unit vector, or NaNs, or zeros. -/
import Derived.Test.Qxb6605993aUnitC
namespace Go.Proofs.Qxb6605993a
open Ieee Fl

theorem val_pow {w : Nat} (L : Nat) (k : Int) (hL : L ≤ 2044) (hw : w = L * 4503599627370496 + 4503599627370496) (hk : k = (L : Int) - 1022) : Fl.Fin w ∧ val w = p2 k := by
  subst hw
  refine ⟨fin_at L 4503599627370496 (by omega) hL, ?_⟩
  rw [val_at L 4503599627370496 (Or.inr (by omega)) (by omega) hL]
  have : ((4503599627370496 : Nat) : Rat) = p2 52 := by rw [show (52 : Int) = ((52 : Nat) : Int) from rfl, p2_nat]
  rw [this, ← p2_add]
  congr 1
  omega

theorem within_bd {x lim : Nat} {K : Rat} (hf : Fl.Fin lim) (hl : lim < 18446744073709551616) (hv : val lim = K) (h : withinF x lim = true) : Bd x K := by
  unfold withinF at h
  rw [Bool.and_eq_true] at h
  obtain ⟨h1, h2⟩ := h
  have hfn := fin_negW hf
  rcases word_cases x with hx | hx | hx
  · rw [ge_orderF hx hfn, val_negW hl, hv] at h1
    rw [le_orderF hx hf, hv] at h2
    exact ⟨hx, of_decide_eq_true h2, of_decide_eq_true h1⟩
  · exfalso
    obtain ⟨m, i, e, _⟩ := read_fin hf
    obtain ⟨m', i', e', _⟩ := read_fin hfn
    unfold geF Format.order at h1
    unfold leF Format.order at h2
    rw [read_inf hx, e'] at h1
    rw [read_inf hx, e] at h2
    cases hs : sgb x
    · rw [hs] at h2; simp [Datum.order] at h2
    · rw [hs] at h1; simp [Datum.order] at h1
  · exfalso
    obtain ⟨s, t, e⟩ := read_nan hx
    unfold leF Format.order at h2
    rw [e] at h2
    simp [Datum.order] at h2

theorem inp_of {z0 z1 : List Nat} {th m : Nat} (e0 : allWithin z0 4715268809856909312 m = true) (e1 : allWithin z1 4715268809856909312 (m - 1) = true) (e2 : withinF th 4724276009111650304 = true) : Inp z0 z1 th m := by
  obtain ⟨f24, v24⟩ := val_pow (w := 4715268809856909312) 1046 24 (by omega) rfl (by omega)
  obtain ⟨f26, v26⟩ := val_pow (w := 4724276009111650304) 1048 26 (by omega) rfl (by omega)
  exact ⟨fun i hi => within_bd f24 (by omega) v24 (allWithin_get e0 i hi), fun i hi => within_bd f24 (by omega) v24 (allWithin_get e1 i (by omega)), within_bd f26 (by omega) v26 e2⟩

theorem exact_of {r v : Rat} {z : Nat} (h : RNW r z) (he : r = v) (hr : RN v v) (h1 : v ≤ p2 1000) (h2 : -p2 1000 ≤ v) : Fl.Fin z ∧ val z = v := by
  subst he
  obtain ⟨f, rn⟩ := h.small h1 h2
  exact ⟨f, rn.eq hr⟩

theorem p2_m52' : p2 (-52) * 4503599627370496 = 1 := by
  have : p2 52 = 4503599627370496 := by rw [show (52 : Int) = ((52 : Nat) : Int) from rfl, p2_nat]; rfl
  rw [← this, ← p2_add]; exact p2_zero

theorem draw_val (u : Nat) (hu : u < 18446744073709551616) : Fl.Fin (drawF u) ∧ val (drawF u) = ((u / 2048 : Nat) : Rat) * p2 (-53) := by
  obtain ⟨f53, v53⟩ := val_pow (w := 4845873199050653696) 1075 53 (by omega) rfl (by omega)
  have hN : u / 2048 ≤ 9007199254740992 := by omega
  obtain ⟨fn, vn⟩ := ofInt_val ((u / 2048 : Nat) : Int) (by omega) (by omega)
  have h := pf_quo fn f53 (by rw [v53]; have := p2_pos 53; grind)
  have p := p2_pos 53
  have e : p2 53 * p2 (-53) = 1 := by rw [← p2_add]; exact p2_zero
  have p0 := p2_pos (-53)
  refine exact_of (v := ((u / 2048 : Nat) : Rat) * p2 (-53)) h ?_ (rn_repr _ _ hN (by omega)) ?_ ?_
  · rw [vn, v53, Rat.div_def, show (p2 53)⁻¹ = p2 (-53) from ?_]
    · rfl
    · grind
  · have h1 : ((u / 2048 : Nat) : Rat) ≤ ((9007199254740992 : Nat) : Rat) := Rat.natCast_le_natCast.2 hN
    have h2 := Rat.mul_le_mul_of_nonneg_right h1 (Rat.le_of_lt p0)
    have h3 : ((9007199254740992 : Nat) : Rat) = p2 53 := by rw [show (53 : Int) = ((53 : Nat) : Int) from rfl, p2_nat]
    rw [h3, e] at h2
    have := p2_mono (show (0 : Int) ≤ 1000 by omega)
    rw [p2_zero] at this
    grind
  · have h1 : (0 : Rat) ≤ ((u / 2048 : Nat) : Rat) := Rat.natCast_le_natCast.2 (Nat.zero_le _)
    have h2 := Rat.mul_nonneg h1 (Rat.le_of_lt p0)
    have := p2_pos 1000
    grind

/-- the entry of the start vector, exactly -/
theorem rand_val (m k : Nat) : Fl.Fin (randF m k) ∧ val (randF m k) = (((mixN (stateS m (k + 1)) / 2048 : Nat) : Int) - 4503599627370496 : Int) * p2 (-52) := by
  have hu := mixN_lt (stateS m (k + 1))
  unfold randF
  generalize hN : mixN (stateS m (k + 1)) = u at hu
  obtain ⟨fd, vd⟩ := draw_val u hu
  obtain ⟨f2, v2⟩ := val_pow (w := 4611686018427387904) 1023 1 (by omega) rfl (by omega)
  have hn : u / 2048 ≤ 9007199254740992 := by omega
  generalize u / 2048 = n at *
  have e53 : p2 1 * p2 (-53) = p2 (-52) := by rw [← p2_add]; rfl
  have p0 := p2_pos (-52)
  have p1000 := p2_mono (show (1 : Int) ≤ 1000 by omega)
  have p1 : p2 1 = 2 := by rw [show (1 : Int) = ((1 : Nat) : Int) from rfl, p2_nat]; rfl
  have h1 : (n : Rat) ≤ ((9007199254740992 : Nat) : Rat) := Rat.natCast_le_natCast.2 hn
  have h0 : (0 : Rat) ≤ (n : Rat) := Rat.natCast_le_natCast.2 (Nat.zero_le _)
  rw [show ((9007199254740992 : Nat) : Rat) = 9007199254740992 from rfl] at h1
  have h52 := p2_m52'
  have m1 := Rat.mul_le_mul_of_nonneg_right h1 (Rat.le_of_lt p0)
  have m0 := Rat.mul_nonneg h0 (Rat.le_of_lt p0)
  obtain ⟨fm, vm⟩ := exact_of (v := (n : Rat) * p2 (-52)) (pf_mul f2 fd) (by rw [v2, vd]; grind) (rn_repr n (-52) hn (by omega)) (by grind) (by grind)
  have ec : (((n : Int) - 4503599627370496 : Int) : Rat) = (n : Rat) - 4503599627370496 := by
    rw [Rat.intCast_sub]; rfl
  refine exact_of (pf_sub fm fin_one) ?_ (rn_repr_int ((n : Int) - 4503599627370496) (-52) (by omega) (by omega) (by omega)) ?_ ?_
  · rw [vm, val_one, ec]; grind
  · rw [ec]; grind
  · rw [ec]; grind

theorem randTo_get (m k : Nat) (hk : k ≤ m) (i : Nat) : (randTo m k).getD i 0 = if i < k then randF m i else 0 := by
  induction k with
  | zero => unfold randTo; rw [if_neg (by omega), List.getD_eq_getElem?_getD, List.getElem?_replicate]; split <;> rfl
  | succ k ih =>
    unfold randTo
    have hl := randTo_length m k
    by_cases h : i = k
    · subst h
      rw [getD_set_self (by omega), if_pos (by omega)]
    · rw [getD_set_ne (by omega), ih (by omega)]
      by_cases h2 : i < k
      · rw [if_pos h2, if_pos (by omega)]
      · rw [if_neg h2, if_neg (by omega)]

theorem start_cases (m : Nat) : (∃ j, j < m ∧ ¬ Bd ((randTo m m).getD j 0) (p2 (-150))) ∨ AllZ (randTo m m) m := by
  by_cases h : AllZ (randTo m m) m
  · exact Or.inr h
  · left
    apply Classical.byContradiction
    intro hc
    apply h
    intro j hj
    have hb : Bd ((randTo m m).getD j 0) (p2 (-150)) := by
      apply Classical.byContradiction
      intro h2
      exact hc ⟨j, hj, h2⟩
    refine ⟨hb.1, ?_⟩
    rw [randTo_get m m (Nat.le_refl _) j, if_pos hj] at hb ⊢
    obtain ⟨_, v⟩ := rand_val m j
    generalize (((mixN (stateS m (j + 1)) / 2048 : Nat) : Int) - 4503599627370496 : Int) = c at v
    have hb2 := hb.2
    clear hb
    rw [v] at hb2 ⊢
    have p := p2_pos (-52)
    have pl := p2_lt (show (-150 : Int) < -52 by omega)
    rcases Int.lt_trichotomy c 0 with h | h | h
    · exfalso
      have h1 : (c : Rat) ≤ ((-1 : Int) : Rat) := Rat.intCast_le_intCast.2 (by omega)
      rw [show ((-1 : Int) : Rat) = -1 from rfl] at h1
      have := Rat.mul_le_mul_of_nonneg_right h1 (Rat.le_of_lt p)
      have := hb2.2
      grind
    · rw [h, show ((0 : Int) : Rat) = 0 from rfl, Rat.zero_mul]
    · exfalso
      have h1 : ((1 : Int) : Rat) ≤ (c : Rat) := Rat.intCast_le_intCast.2 (by omega)
      rw [show ((1 : Int) : Rat) = 1 from rfl] at h1
      have := Rat.mul_le_mul_of_nonneg_right h1 (Rat.le_of_lt p)
      have := hb2.1
      grind

/-- what the second step yields -/
theorem eig_cases {al of : List Nat} {th m : Nat} (H : Inp al of th m) (hm : 1 ≤ m) (hmx : m ≤ 65536) :
    HasN (eigF al of th m) m ∨ AllZ (eigF al of th m) m ∨ Good (eigF al of th m) m := by
  have h1 := step_cases H hm hmx (randTo_length m m) (start_cases m)
  exact step_again H hm hmx (iterF_length al of th m 1) h1

theorem eig_law {al of : List Nat} {th m : Nat} (H : Inp al of th m) (hm : 1 ≤ m) (hmx : m ≤ 65536) :
    isUnitF (eigF al of th m) m = true ∨ anyNaN (eigF al of th m) m = true ∨ allZero (eigF al of th m) m = true := by
  rcases eig_cases H hm hmx with h | h | h
  · exact Or.inr (Or.inl (anyNaN_has h))
  · exact Or.inr (Or.inr (allZero_all h m (Nat.le_refl _)))
  · exact Or.inl h.unit
end Go.Proofs.Qxb6605993a
