/- More of floats as rationals: their spacing, exact differences, scaling by powers of two. -/
import Derived.Test.Qxb6605993aDiagP
namespace Go.Proofs.Qxb6605993a
open Ieee Fl

/-- a magnitude as a whole number of units -/
theorem dec {x : Nat} (h : Fl.Fin x) : ∃ (c : Nat) (p : Int), c < 9007199254740992 ∧ -1074 ≤ p ∧ p ≤ 1000 ∧ mv (rung x) = (c : Rat) * p2 p ∧ (p = -1074 ∨ 4503599627370496 ≤ c) := by
  unfold Fl.Fin at h
  by_cases h0 : rung x < 9007199254740992
  · refine ⟨rung x, -1074, h0, by omega, by omega, ?_, Or.inl rfl⟩
    have := mv_at 0 (rung x) (Or.inl rfl) (by omega)
    rw [Nat.zero_mul, Nat.zero_add] at this
    rw [this]
    congr 1
  · obtain ⟨L, hL⟩ : ∃ L, L = rung x / 4503599627370496 - 1 := ⟨_, rfl⟩
    refine ⟨rung x - L * 4503599627370496, (L : Int) - 1074, by omega, by omega, by omega, ?_, Or.inr (by omega)⟩
    have := mv_at L (rung x - L * 4503599627370496) (Or.inr (by omega)) (by omega)
    rw [show L * 4503599627370496 + (rung x - L * 4503599627370496) = rung x by omega] at this
    rw [this]

theorem p2_sub_nat (a b : Int) (h : b ≤ a) : ∃ n : Nat, p2 a = (n : Rat) * p2 b := by
  obtain ⟨k, hk⟩ : ∃ k : Nat, a = (k : Int) + b := ⟨(a - b).toNat, by omega⟩
  subst hk
  exact ⟨2 ^ k, by rw [p2_add, p2_nat]⟩

/-- a magnitude of at least 2^(52+p) is a whole number of 2^p -/
theorem mult {x : Nat} {p : Int} (h : Fl.Fin x) (hp : p2 (52 + p) ≤ mv (rung x)) : ∃ n : Nat, mv (rung x) = (n : Rat) * p2 p := by
  obtain ⟨c, q, hc, _, _, e, _⟩ := dec h
  by_cases hq : p ≤ q
  · obtain ⟨n, hn⟩ := p2_sub_nat q p hq
    refine ⟨c * n, ?_⟩
    rw [e, hn, Rat.natCast_mul, Rat.mul_assoc]
  · exfalso
    have P := p2_pos q
    have h1 : (c : Rat) ≤ ((9007199254740991 : Nat) : Rat) := Rat.natCast_le_natCast.2 (by omega)
    rw [show ((9007199254740991 : Nat) : Rat) = 9007199254740991 from rfl] at h1
    have h2 := Rat.mul_le_mul_of_nonneg_right h1 (Rat.le_of_lt P)
    have h3 : p2 (53 + q) ≤ p2 (52 + p) := p2_mono (by omega)
    have h4 : p2 (53 + q) = 9007199254740992 * p2 q := by
      rw [p2_add, show (53 : Int) = ((53 : Nat) : Int) from rfl, p2_nat]; rfl
    rw [e] at hp
    grind

theorem mv_abs (x : Nat) : (val x = mv (rung x) ∧ sgb x = false) ∨ (val x = - mv (rung x) ∧ sgb x = true) := by
  unfold val
  cases h : sgb x
  · exact Or.inl ⟨rfl, rfl⟩
  · exact Or.inr ⟨rfl, rfl⟩

/-- the difference of two near numbers is exact -/
theorem sterbenz {x y : Nat} (hx : Fl.Fin x) (hy : Fl.Fin y) (h0 : 0 < val x) (h1 : val x ≤ val y) (h2 : val y ≤ 2 * val x) : RN (val y - val x) (val y - val x) := by
  have mx := mv_nonneg (rung x)
  have my := mv_nonneg (rung y)
  have ex : val x = mv (rung x) := by
    rcases mv_abs x with h | h
    · exact h.1
    · exfalso; have := h.1; grind
  have ey : val y = mv (rung y) := by
    rcases mv_abs y with h | h
    · exact h.1
    · exfalso; have := h.1; grind
  obtain ⟨c, p, hc, hp, hp2, e, hn⟩ := dec hx
  have P := p2_pos p
  have hm : ∃ n : Nat, mv (rung y) = (n : Rat) * p2 p := by
    rcases hn with hn | hn
    · subst hn
      obtain ⟨c', q, _, hq, _, e', _⟩ := dec hy
      obtain ⟨n, hn⟩ := p2_sub_nat q (-1074) hq
      exact ⟨c' * n, by rw [e', hn, Rat.natCast_mul, Rat.mul_assoc]⟩
    · apply mult hy
      have h3 : (4503599627370496 : Rat) ≤ (c : Rat) := Rat.natCast_le_natCast.2 hn
      have h4 := Rat.mul_le_mul_of_nonneg_right h3 (Rat.le_of_lt P)
      have h5 : p2 (52 + p) = 4503599627370496 * p2 p := by
        rw [p2_add, show (52 : Int) = ((52 : Nat) : Int) from rfl, p2_nat]; rfl
      rw [h5, ← ey]
      rw [ex, e] at h1
      grind
  obtain ⟨n, en⟩ := hm
  rw [ey, en, ex, e] at h1 h2
  rw [ey, en, ex, e]
  have l1 : (c : Rat) ≤ (n : Rat) := by
    rcases Rat.le_total (a := (c : Rat)) (b := (n : Rat)) with h | h
    · exact h
    · by_cases he : (n : Rat) = (c : Rat)
      · rw [he]; exact Rat.le_refl
      · exfalso
        have := Rat.mul_lt_mul_of_pos_right (show (n : Rat) < (c : Rat) by grind) P
        grind
  have l2 : (n : Rat) ≤ 2 * (c : Rat) := by
    rcases Rat.le_total (a := (n : Rat)) (b := 2 * (c : Rat)) with h | h
    · exact h
    · by_cases he : (n : Rat) = 2 * (c : Rat)
      · rw [he]; exact Rat.le_refl
      · exfalso
        have := Rat.mul_lt_mul_of_pos_right (show 2 * (c : Rat) < (n : Rat) by grind) P
        grind
  have n1 : c ≤ n := Rat.natCast_le_natCast.1 l1
  have n2 : n ≤ 2 * c := by
    have : (n : Rat) ≤ ((2 * c : Nat) : Rat) := by rw [Rat.natCast_mul]; exact l2
    exact Rat.natCast_le_natCast.1 this
  have r := rn_repr (n - c) p (by omega) hp
  have es : ((n - c : Nat) : Rat) = (n : Rat) - (c : Rat) := by
    have : ((n - c : Nat) : Rat) + (c : Rat) = (n : Rat) := by rw [← Rat.natCast_add]; congr 1; omega
    grind
  rw [es] at r
  have e3 : (n : Rat) * p2 p - (c : Rat) * p2 p = ((n : Rat) - (c : Rat)) * p2 p := by grind
  rw [e3]
  exact r

/-- a number that is not tiny, times a power of two -/
theorem scale_rn {x : Nat} {k : Int} (hx : Fl.Fin x) (hb : p2 (-500) ≤ mv (rung x)) (hk : -400 ≤ k) : RN (p2 k * val x) (p2 k * val x) := by
  obtain ⟨c, p, hc, hp, _, e, _⟩ := dec hx
  have hp6 : -600 ≤ p := by
    apply Classical.byContradiction
    intro hq
    have P := p2_pos p
    have h1 : (c : Rat) ≤ ((9007199254740992 : Nat) : Rat) := Rat.natCast_le_natCast.2 (by omega)
    rw [show ((9007199254740992 : Nat) : Rat) = 9007199254740992 from rfl] at h1
    have h2 := Rat.mul_le_mul_of_nonneg_right h1 (Rat.le_of_lt P)
    have h4 : p2 (53 + p) = 9007199254740992 * p2 p := by
      rw [p2_add, show (53 : Int) = ((53 : Nat) : Int) from rfl, p2_nat]; rfl
    have h3 : p2 (53 + p) < p2 (-500) := p2_lt (by omega)
    rw [e] at hb
    grind
  have r := rn_repr c (k + p) (by omega) (by omega)
  rw [p2_add] at r
  rcases mv_abs x with h | h
  · rw [h.1, e, show p2 k * ((c : Rat) * p2 p) = (c : Rat) * (p2 k * p2 p) by grind]; exact r
  · rw [h.1, e, show p2 k * -((c : Rat) * p2 p) = -((c : Rat) * (p2 k * p2 p)) by grind]; exact r.neg
end Go.Proofs.Qxb6605993a
