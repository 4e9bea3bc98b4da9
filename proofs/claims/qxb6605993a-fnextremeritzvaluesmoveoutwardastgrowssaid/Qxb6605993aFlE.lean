/- How far a rounding is off; numbers that are words; whole numbers as words. -/
import Derived.Test.Qxb6605993aFlD
import GoSem.Core.Float
namespace Go.Proofs.Qxb6605993a.Fl
open Ieee

theorem p2_m52 : p2 (-52) * 4503599627370496 = 1 := by rw [← p2_52]; exact p2_neg_mul 52
theorem p2_m53 : p2 (-53) * 9007199254740992 = 1 := by rw [← p2_53]; exact p2_neg_mul 53
theorem p2_53_52 : p2 (-52) = 2 * p2 (-53) := by rw [show (-52 : Int) = -53 + 1 from rfl, p2_succ]; grind

theorem gap_rel {k : Nat} (h : 4503599627370496 ≤ k) : mv (k + 1) ≤ mv k + p2 (-52) * mv k := by
  obtain ⟨L, c, rfl, hc, hlt⟩ := rung_form k
  have hge : 4503599627370496 ≤ c := by omega
  rw [mv_succ_at L c hc hlt, mv_at L c hc (by omega)]
  have hp := p2_pos (L - 1074)
  have h1 : ((4503599627370496 : Nat) : Rat) ≤ (c : Rat) := Rat.natCast_le_natCast.2 hge
  have e : ((4503599627370496 : Nat) : Rat) = 4503599627370496 := rfl
  rw [e] at h1
  have h2 := Rat.mul_le_mul_of_nonneg_left h1 (Rat.le_of_lt (p2_pos (-52)))
  rw [p2_m52] at h2
  have h3 := Rat.mul_le_mul_of_nonneg_right h2 (Rat.le_of_lt hp)
  grind

theorem gap_abs {k : Nat} (h : k < 4503599627370496) : mv (k + 1) = mv k + p2 (-1074) := by
  have h1 := mv_succ_at 0 k (Or.inl rfl) (by omega)
  have h2 := mv_at 0 k (Or.inl rfl) (by omega)
  rw [Nat.zero_mul, Nat.zero_add] at h1 h2
  rw [h1, h2]
  have e : (((0 : Nat) : Int) - 1074) = -1074 := by omega
  rw [e]; grind

theorem p2_1075 : p2 (-1074) = 2 * p2 (-1075) := by rw [show (-1074 : Int) = -1075 + 1 from rfl, p2_succ]; grind

theorem gap_any (k : Nat) : mv (k + 1) ≤ mv k + 2 * (p2 (-53) * mv k + p2 (-1075)) := by
  have h0 := mv_nonneg k
  have h1 := p2_pos (-53)
  have h2 := p2_pos (-1075)
  have h3 := Rat.mul_nonneg (Rat.le_of_lt h1) h0
  by_cases h : k < 4503599627370496
  · rw [gap_abs h, p2_1075]; grind
  · have := gap_rel (show 4503599627370496 ≤ k by omega)
    rw [p2_53_52] at this; grind

theorem IsRN.err {r : Rat} {k : Nat} (h : IsRN r k) (hr : 0 ≤ r) : mv k ≤ r + (p2 (-53) * r + p2 (-1075)) ∧ r ≤ mv k + (p2 (-53) * r + p2 (-1075)) := by
  have h1 := p2_pos (-53)
  have h2 := p2_pos (-1075)
  have hu := Rat.mul_nonneg (Rat.le_of_lt h1) hr
  constructor
  · rcases Nat.eq_zero_or_pos k with hk | hk
    · subst hk; rw [mv_zero]; grind
    · obtain ⟨j, rfl⟩ : ∃ j, k = j + 1 := ⟨k - 1, by omega⟩
      have hl := h.1 j rfl
      have hg := gap_any j
      by_cases hrj : mv j ≤ r
      · have h3 := Rat.mul_le_mul_of_nonneg_left hrj (Rat.le_of_lt h1)
        grind
      · have := mv_lt (show j < j + 1 by omega)
        grind
  · have hl := h.2
    have hg := gap_any k
    by_cases hrk : mv k ≤ r
    · have h3 := Rat.mul_le_mul_of_nonneg_left hrk (Rat.le_of_lt h1)
      grind
    · grind

theorem mv_min : mv 4503599627370496 = p2 (-1022) := by
  have := mv_at 0 4503599627370496 (Or.inl rfl) (by omega)
  rw [Nat.zero_mul, Nat.zero_add] at this
  rw [this]
  have e2 : ((4503599627370496 : Nat) : Rat) = p2 52 := by rw [p2_52]; rfl
  rw [e2, ← p2_add]; congr 1

theorem IsRN.rel {r : Rat} {k : Nat} (h : IsRN r k) (hr : p2 (-1022) ≤ r) : mv k ≤ r + p2 (-53) * r ∧ r ≤ mv k + p2 (-53) * r := by
  have h1 := p2_pos (-53)
  have h2 := p2_pos (-1022)
  have hu := Rat.mul_nonneg (Rat.le_of_lt h1) (show 0 ≤ r by grind)
  have hk : 4503599627370496 ≤ k := h.mv_le (by rw [mv_min]; exact hr)
  constructor
  · by_cases hrk : mv k ≤ r
    · grind
    · obtain ⟨j, rfl⟩ : ∃ j, k = j + 1 := ⟨k - 1, by omega⟩
      have hj : 4503599627370496 ≤ j := by
        rcases Nat.lt_or_ge j 4503599627370496 with h3 | h3
        · exfalso
          have : j + 1 = 4503599627370496 := by omega
          rw [this, mv_min] at hrk; grind
        · exact h3
      have hl := h.1 j rfl
      have hg := gap_rel hj
      rw [p2_53_52] at hg
      by_cases hrj : mv j ≤ r
      · have h3 := Rat.mul_le_mul_of_nonneg_left hrj (Rat.le_of_lt h1)
        grind
      · have := mv_lt (show j < j + 1 by omega)
        grind
  · have hl := h.2
    have hg := gap_rel hk
    rw [p2_53_52] at hg
    by_cases hrk : mv k ≤ r
    · have h3 := Rat.mul_le_mul_of_nonneg_left hrk (Rat.le_of_lt h1)
      grind
    · grind

/-- a rounding is off by at most u b + eta, where b bounds the number -/
theorem RN.err {r v : Rat} (h : RN r v) {b : Rat} (h1 : r ≤ b) (h2 : -r ≤ b) : v ≤ r + (p2 (-53) * b + p2 (-1075)) ∧ r ≤ v + (p2 (-53) * b + p2 (-1075)) := by
  rcases h with ⟨h0, k, hk, rfl⟩ | ⟨h0, k, hk, rfl⟩
  · have := hk.err h0
    have h3 := Rat.mul_le_mul_of_nonneg_left h1 (Rat.le_of_lt (p2_pos (-53)))
    grind
  · have := hk.err (by grind)
    have h3 := Rat.mul_le_mul_of_nonneg_left h2 (Rat.le_of_lt (p2_pos (-53)))
    grind

theorem RN.rel {r v : Rat} (h : RN r v) (hr : p2 (-1022) ≤ r) : v ≤ r + p2 (-53) * r ∧ r ≤ v + p2 (-53) * r := by
  have := p2_pos (-1022)
  rcases h with ⟨h0, k, hk, rfl⟩ | ⟨h0, k, hk, rfl⟩
  · exact hk.rel hr
  · exfalso; grind

/-! ### numbers that are words -/
theorem repr (n : Nat) : ∀ (m : Nat) (p : Int), m ≤ 9007199254740992 → p = n - 1074 → ∃ k, mv k = (m : Rat) * p2 p := by
  induction n with
  | zero =>
    intro m p hm hp
    refine ⟨m, ?_⟩
    have := mv_at 0 m (Or.inl rfl) hm
    rw [Nat.zero_mul, Nat.zero_add] at this
    rw [this, hp]
  | succ n ih =>
    intro m p hm hp
    by_cases h : 4503599627370496 ≤ m
    · refine ⟨(n + 1) * 4503599627370496 + m, ?_⟩
      rw [mv_at (n + 1) m (Or.inr h) hm, hp]
    · obtain ⟨k, hk⟩ := ih (2 * m) (p - 1) (by omega) (by omega)
      refine ⟨k, ?_⟩
      rw [hk, Rat.natCast_mul]
      have e : p2 p = p2 (p - 1) * 2 := by rw [← p2_succ]; congr 1; omega
      have e2 : ((2 : Nat) : Rat) = 2 := rfl
      rw [e, e2]; grind

theorem rn_repr (m : Nat) (p : Int) (hm : m ≤ 9007199254740992) (hp : -1074 ≤ p) : RN ((m : Rat) * p2 p) ((m : Rat) * p2 p) := by
  obtain ⟨k, hk⟩ := repr (p + 1074).toNat m p hm (by omega)
  rw [← hk]
  exact Or.inl ⟨mv_nonneg k, k, isRN_mv k, rfl⟩

theorem rn_repr_int (m : Int) (p : Int) (h1 : m ≤ 9007199254740992) (h2 : -9007199254740992 ≤ m) (hp : -1074 ≤ p) : RN ((m : Rat) * p2 p) ((m : Rat) * p2 p) := by
  rcases Int.lt_or_le m 0 with h | h
  · have := (rn_repr m.natAbs p (by omega) hp).neg
    have e : ((m.natAbs : Nat) : Rat) = -(m : Rat) := by
      rw [← Rat.intCast_neg]; exact congrArg (fun t : Int => (t : Rat)) (show ((m.natAbs : Nat) : Int) = -m by omega)
    rw [e, show -(-(m : Rat) * p2 p) = (m : Rat) * p2 p by grind] at this
    exact this
  · have := rn_repr m.natAbs p (by omega) hp
    have e : ((m.natAbs : Nat) : Rat) = (m : Rat) := congrArg (fun t : Int => (t : Rat)) (show ((m.natAbs : Nat) : Int) = m by omega)
    rw [e] at this
    exact this

/-! ### whole numbers -/
theorem ofInt_rn (n : Int) : RNW (n : Rat) (FloatKind.nearest .f64 n) := by
  have := write_number (decide (n < 0)) n.natAbs 0
  rw [p2_zero] at this
  have e : sv (decide (n < 0)) (((n.natAbs : Nat) : Rat) * 1) = (n : Rat) := by
    rw [Rat.mul_one]; exact natAbs_val n _ (fun _ => rfl)
  rw [e] at this
  exact this

theorem ofInt_fin (n : Int) (h1 : -9223372036854775808 ≤ n) (h2 : n ≤ 18446744073709551616) : Fin (FloatKind.nearest .f64 n) ∧ RN (n : Rat) (val (FloatKind.nearest .f64 n)) := by
  have hp : (18446744073709551616 : Rat) < p2 1023 := by
    have : p2 64 = 18446744073709551616 := by rw [show (64 : Int) = ((64 : Nat) : Int) from rfl, p2_nat]; rfl
    rw [← this]; exact p2_lt (by omega)
  have a : (n : Rat) ≤ 18446744073709551616 := by
    have := Rat.intCast_le_intCast.2 h2; exact this
  have b : (-9223372036854775808 : Rat) ≤ (n : Rat) := by
    have := Rat.intCast_le_intCast.2 h1; exact this
  exact (ofInt_rn n).fin (by grind) (by grind)

theorem ofInt_val (n : Int) (h1 : -9007199254740992 ≤ n) (h2 : n ≤ 9007199254740992) : Fin (FloatKind.nearest .f64 n) ∧ val (FloatKind.nearest .f64 n) = (n : Rat) := by
  have h := ofInt_fin n (by omega) (by omega)
  refine ⟨h.1, ?_⟩
  have := rn_repr_int n 0 h2 h1 (by omega)
  rw [p2_zero, Rat.mul_one] at this
  exact h.2.eq this

end Go.Proofs.Qxb6605993a.Fl
