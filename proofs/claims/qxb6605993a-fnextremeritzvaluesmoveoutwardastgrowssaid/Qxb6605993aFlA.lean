/- Plain law of binary64 (no Go in sight): magnitudes by rung, rounding to nearest even as a relation. -/
import Ieee.Arith
namespace Go.Proofs.Qxb6605993a.Fl
open Ieee

def p2 (e : Int) : Rat := (2 : Rat) ^ e

theorem p2_pos (e : Int) : 0 < p2 e := Rat.zpow_pos (by decide)
theorem p2_add (a b : Int) : p2 (a + b) = p2 a * p2 b := Rat.zpow_add (by decide) a b
theorem p2_zero : p2 0 = 1 := by unfold p2; exact Rat.zpow_zero 2
theorem p2_one : p2 1 = 2 := by unfold p2; exact Rat.zpow_one 2
theorem p2_succ (a : Int) : p2 (a + 1) = p2 a * 2 := by rw [p2_add, p2_one]
theorem p2_nat (n : Nat) : p2 (n : Int) = ((2 ^ n : Nat) : Rat) := by
  unfold p2
  rw [Rat.zpow_natCast, Rat.natCast_pow]
  rfl
theorem p2_neg_mul (e : Int) : p2 (-e) * p2 e = 1 := by
  rw [← p2_add, Int.add_left_neg, p2_zero]
theorem p2_nat_ge (n : Nat) : 1 ≤ p2 (n : Int) := by
  rw [p2_nat]
  have h : 1 ≤ 2 ^ n := Nat.one_le_two_pow
  exact_mod_cast Rat.natCast_le_natCast.2 h
theorem p2_mono {a b : Int} (h : a ≤ b) : p2 a ≤ p2 b := by
  obtain ⟨n, hn⟩ := Int.le.dest h
  subst hn
  rw [p2_add]
  have h1 := p2_nat_ge n
  have h2 := p2_pos a
  have := Rat.mul_le_mul_of_nonneg_left h1 (Rat.le_of_lt h2)
  grind
theorem p2_lt {a b : Int} (h : a < b) : p2 a < p2 b := by
  have h1 : a + 1 ≤ b := h
  have h2 := p2_mono h1
  rw [p2_succ] at h2
  have := p2_pos a
  grind

/-! ### rungs -/
def mg (k : Nat) : Nat := if k < 4503599627370496 then k else (4503599627370496 + k % 4503599627370496) * 2 ^ (k / 4503599627370496 - 1)
def gap (k : Nat) : Nat := 2 ^ (k / 4503599627370496 - 1)

theorem mg_at (L c : Nat) (h : L = 0 ∨ 4503599627370496 ≤ c) (hc : c ≤ 9007199254740992) : mg (L * 4503599627370496 + c) = c * 2 ^ L := by
  unfold mg
  by_cases h1 : c < 4503599627370496
  · have hL : L = 0 := by omega
    subst hL
    rw [if_pos (by omega)]; simp
  · rw [if_neg (by omega)]
    by_cases h2 : c = 9007199254740992
    · subst h2
      have e1 : (L * 4503599627370496 + 9007199254740992) % 4503599627370496 = 0 := by omega
      have e2 : (L * 4503599627370496 + 9007199254740992) / 4503599627370496 - 1 = L + 1 := by omega
      rw [e1, e2, Nat.pow_succ]; omega
    · have e1 : (L * 4503599627370496 + c) % 4503599627370496 = c - 4503599627370496 := by omega
      have e2 : (L * 4503599627370496 + c) / 4503599627370496 - 1 = L := by omega
      have e3 : 4503599627370496 + (c - 4503599627370496) = c := by omega
      rw [e1, e2, e3]

theorem gap_at (L c : Nat) (h : L = 0 ∨ 4503599627370496 ≤ c) (hc : c < 9007199254740992) : gap (L * 4503599627370496 + c) = 2 ^ L := by
  unfold gap
  congr 1
  omega

theorem gap_top (L : Nat) : gap (L * 4503599627370496 + 9007199254740992) = 2 ^ (L + 1) := by
  unfold gap
  congr 1
  omega

/-- every rung has a place and a digit string -/
theorem rung_form (k : Nat) : ∃ L c, k = L * 4503599627370496 + c ∧ (L = 0 ∨ 4503599627370496 ≤ c) ∧ c < 9007199254740992 := by
  by_cases h : k < 4503599627370496
  · exact ⟨0, k, by omega, Or.inl rfl, by omega⟩
  · exact ⟨k / 4503599627370496 - 1, k % 4503599627370496 + 4503599627370496, by omega, Or.inr (by omega), by omega⟩

theorem mg_succ (k : Nat) : mg (k + 1) = mg k + gap k := by
  obtain ⟨L, c, rfl, h, hc⟩ := rung_form k
  rw [mg_at L c h (by omega), gap_at L c h hc, Nat.add_assoc, mg_at L (c + 1) (by omega) (by omega), Nat.succ_mul]

theorem gap_pos (k : Nat) : 0 < gap k := Nat.two_pow_pos _
theorem mg_zero : mg 0 = 0 := rfl
theorem mg_lt {a b : Nat} (h : a < b) : mg a < mg b := by
  induction h with
  | refl => rw [mg_succ]; have := gap_pos a; omega
  | step _ ih => rw [mg_succ]; omega
theorem mg_le {a b : Nat} (h : a ≤ b) : mg a ≤ mg b := by
  rcases Nat.lt_or_eq_of_le h with h | h
  · exact Nat.le_of_lt (mg_lt h)
  · rw [h]; exact Nat.le_refl _

/-- a rung's magnitude -/
def mv (k : Nat) : Rat := (mg k : Rat) * p2 (-1074)

theorem mv_zero : mv 0 = 0 := by unfold mv; rw [mg_zero]; grind
theorem mv_lt {a b : Nat} (h : a < b) : mv a < mv b :=
  Rat.mul_lt_mul_of_pos_right (Rat.natCast_lt_natCast.2 (mg_lt h)) (p2_pos _)
theorem mv_le {a b : Nat} (h : a ≤ b) : mv a ≤ mv b :=
  Rat.mul_le_mul_of_nonneg_right (Rat.natCast_le_natCast.2 (mg_le h)) (Rat.le_of_lt (p2_pos _))
theorem mv_nonneg (a : Nat) : 0 ≤ mv a := by have := mv_le (Nat.zero_le a); rw [mv_zero] at this; exact this
theorem lt_of_mv {a b : Nat} (h : mv a < mv b) : a < b := by
  rcases Nat.lt_or_ge a b with h1 | h1
  · exact h1
  · have := mv_le h1; grind
theorem le_of_mv {a b : Nat} (h : mv a ≤ mv b) : a ≤ b := by
  rcases Nat.lt_or_ge b a with h1 | h1
  · have := mv_lt h1; grind
  · exact h1

theorem mv_at (L c : Nat) (h : L = 0 ∨ 4503599627370496 ≤ c) (hc : c ≤ 9007199254740992) : mv (L * 4503599627370496 + c) = c * p2 (L - 1074) := by
  unfold mv
  rw [mg_at L c h hc, Rat.natCast_mul, ← p2_nat, Int.sub_eq_add_neg, p2_add]
  grind

theorem mv_succ_at (L c : Nat) (h : L = 0 ∨ 4503599627370496 ≤ c) (hc : c < 9007199254740992) : mv (L * 4503599627370496 + c + 1) = (c + 1) * p2 (L - 1074) := by
  have := mv_at L (c + 1) (by omega) (by omega)
  rw [Nat.add_assoc, this]
  have e : ((c + 1 : Nat) : Rat) = (c : Rat) + 1 := by exact_mod_cast Rat.natCast_add c 1
  rw [e]

/-! ### nearest, as a relation -/
def IsRN (r : Rat) (k : Nat) : Prop :=
  (∀ j, k = j + 1 → mv j + mv k < 2 * r ∨ (mv j + mv k = 2 * r ∧ k % 2 = 0)) ∧
  (2 * r < mv k + mv (k + 1) ∨ (2 * r = mv k + mv (k + 1) ∧ k % 2 = 0))

theorem IsRN.mono {r s : Rat} {a b : Nat} (ha : IsRN r a) (hb : IsRN s b) (h : r ≤ s) : a ≤ b := by
  rcases Nat.lt_or_ge b a with h1 | h1
  · exfalso
    obtain ⟨j, rfl⟩ : ∃ j, a = j + 1 := ⟨a - 1, by omega⟩
    have h2 := ha.1 j rfl
    have h3 := hb.2
    rcases Nat.lt_or_eq_of_le (Nat.le_of_lt_succ h1) with h4 | h4
    · have h5 := mv_lt h4
      have h6 := mv_le (show b + 1 ≤ j + 1 by omega)
      grind
    · subst h4
      rcases h2 with h2 | ⟨h2, p⟩
      · rcases h3 with h3 | ⟨h3, q⟩ <;> grind
      · rcases h3 with h3 | ⟨h3, q⟩
        · grind
        · omega
  · exact h1

theorem IsRN.eq {r : Rat} {a b : Nat} (ha : IsRN r a) (hb : IsRN r b) : a = b :=
  Nat.le_antisymm (ha.mono hb (Rat.le_refl)) (hb.mono ha (Rat.le_refl))

theorem isRN_mv (k : Nat) : IsRN (mv k) k := by
  constructor
  · intro j hj
    have := mv_lt (show j < k by omega)
    left; grind
  · have := mv_lt (show k < k + 1 by omega)
    left; grind

theorem IsRN.le_mv {r : Rat} {a b : Nat} (ha : IsRN r a) (h : r ≤ mv b) : a ≤ b := ha.mono (isRN_mv b) h
theorem IsRN.mv_le {r : Rat} {a b : Nat} (ha : IsRN r a) (h : mv b ≤ r) : b ≤ a := (isRN_mv b).mono ha h

end Go.Proofs.Qxb6605993a.Fl
