/- 'Format.nearest' at binary64 is rounding to nearest even in the sense of IsRN. -/
import Derived.Test.Qxb6605993aFlA
namespace Go.Proofs.Qxb6605993a.Fl
open Ieee

/-- the digits c at place L are nearest (ties to even) to r -/
structure Near (L c : Nat) (r : Rat) : Prop where
  h0 : L = 0 ∨ 4503599627370496 * p2 (L - 1074) ≤ r
  h1 : r < 9007199254740992 * p2 (L - 1074)
  lo : (2 * (c : Rat) - 1) * p2 (L - 1074) < 2 * r ∨ ((2 * (c : Rat) - 1) * p2 (L - 1074) = 2 * r ∧ c % 2 = 0)
  hi : 2 * r < (2 * (c : Rat) + 1) * p2 (L - 1074) ∨ (2 * r = (2 * (c : Rat) + 1) * p2 (L - 1074) ∧ c % 2 = 0)

theorem castN {a b : Nat} (h : (a : Rat) < (b : Rat)) : a < b := Rat.natCast_lt_natCast.1 h
theorem castLe {a b : Nat} (h : (a : Rat) ≤ (b : Rat)) : a ≤ b := Rat.natCast_le_natCast.1 h

theorem Near.le {L c : Nat} {r : Rat} (h : Near L c r) : c ≤ 9007199254740992 := by
  have hp := p2_pos (L - 1074)
  have a : (2 * (c : Rat) - 1) * p2 (L - 1074) < 18014398509481984 * p2 (L - 1074) := by
    have := h.lo; have := h.h1; grind
  have b := Rat.lt_of_mul_lt_mul_right a (Rat.le_of_lt hp)
  have c1 : ((2 * c : Nat) : Rat) < ((18014398509481985 : Nat) : Rat) := by
    rw [Rat.natCast_mul]
    have e1 : ((2 : Nat) : Rat) = 2 := rfl
    have e2 : ((18014398509481985 : Nat) : Rat) = 18014398509481985 := rfl
    rw [e1, e2]; grind
  have := castN c1
  omega

theorem Near.ge {L c : Nat} {r : Rat} (h : Near L c r) : L = 0 ∨ 4503599627370496 ≤ c := by
  rcases h.h0 with h0 | h0
  · exact Or.inl h0
  · right
    have hp := p2_pos (L - 1074)
    have a : 9007199254740992 * p2 (L - 1074) ≤ (2 * (c : Rat) + 1) * p2 (L - 1074) := by
      have := h.hi; grind
    have b := Rat.le_of_mul_le_mul_right a hp
    have c1 : ((9007199254740992 : Nat) : Rat) ≤ ((2 * c + 1 : Nat) : Rat) := by
      rw [Rat.natCast_add, Rat.natCast_mul]
      have e1 : ((2 : Nat) : Rat) = 2 := rfl
      have e2 : ((9007199254740992 : Nat) : Rat) = 9007199254740992 := rfl
      have e3 : ((1 : Nat) : Rat) = 1 := rfl
      rw [e1, e2, e3]; exact b
    have := castLe c1
    omega

theorem Near.mvEq {L c : Nat} {r : Rat} (h : Near L c r) : mv (L * 4503599627370496 + c) = c * p2 (L - 1074) :=
  mv_at L c h.ge h.le

theorem Near.isRN {L c : Nat} {r : Rat} (h : Near L c r) : IsRN r (L * 4503599627370496 + c) := by
  have hp := p2_pos (L - 1074)
  have hm := h.mvEq
  have hge := h.ge
  have hle := h.le
  have ev : (L * 4503599627370496 + c) % 2 = c % 2 := by omega
  constructor
  · intro j hj
    rw [hm, ev]
    rcases Nat.eq_or_lt_of_le (show 0 ≤ c from Nat.zero_le c) with hc | hc
    · exfalso; subst hc; omega
    · by_cases hk : L = 0 ∨ 4503599627370496 < c
      · obtain ⟨d, rfl⟩ : ∃ d, c = d + 1 := ⟨c - 1, by omega⟩
        have hj' : j = L * 4503599627370496 + d := by omega
        rw [hj', mv_at L d (by omega) (by omega)]
        have e : ((d + 1 : Nat) : Rat) = (d : Rat) + 1 := by exact_mod_cast Rat.natCast_add d 1
        have := h.lo
        rw [e] at this ⊢
        rcases this with this | ⟨this, q⟩
        · left; grind
        · right; exact ⟨by grind, q⟩
      · left
        have hl : mv j < mv (L * 4503599627370496 + c) := mv_lt (by omega)
        rw [hm] at hl
        rcases h.h0 with h0 | h0
        · omega
        · have hc2 : c = 4503599627370496 := by omega
          subst hc2
          have e2 : ((4503599627370496 : Nat) : Rat) = 4503599627370496 := rfl
          rw [e2] at hl ⊢
          grind
  · rw [hm, ev]
    by_cases hk : c < 9007199254740992
    · rw [mv_succ_at L c hge hk]
      rcases h.hi with h3 | ⟨h3, q⟩
      · left; grind
      · right; exact ⟨by grind, q⟩
    · left
      have hc2 : c = 9007199254740992 := by omega
      have hl : mv (L * 4503599627370496 + c) < mv (L * 4503599627370496 + c + 1) := mv_lt (by omega)
      rw [hm] at hl
      have h1 := h.h1
      subst hc2
      have e2 : ((9007199254740992 : Nat) : Rat) = 9007199254740992 := rfl
      rw [e2] at hl ⊢
      grind

/-- q and s stand alike to every multiple of g -/
def Same (g q s : Rat) : Prop := ∀ c : Int, ((c : Rat) * g < q ↔ (c : Rat) * g < s) ∧ (q < (c : Rat) * g ↔ s < (c : Rat) * g)

theorem Same.refl (g q : Rat) : Same g q q := fun _ => ⟨Iff.rfl, Iff.rfl⟩

theorem Same.scale {g q s : Rat} (h : Same g q s) (t : Nat) : Same (p2 t * g) q s := by
  intro c
  have := h (c * (2 ^ t : Nat))
  have e : ((c * (2 ^ t : Nat) : Int) : Rat) * g = (c : Rat) * (p2 t * g) := by
    rw [Rat.intCast_mul, p2_nat, ← Rat.mul_assoc]; rfl
  rw [e] at this
  exact this

theorem Same.near {L c : Nat} {s q : Rat} (h : Near L c s) (hs : Same (p2 (L - 1074 - 1)) q s) : Near L c q := by
  have e : p2 (L - 1074) = p2 (L - 1074 - 1) * 2 := by rw [← p2_succ]; congr 1; omega
  have h0 := h.h0
  have h1 := h.h1
  have lo := h.lo
  have hi := h.hi
  have s0 := hs 9007199254740992
  have s1 := hs 18014398509481984
  have s2 := hs (2 * (c : Int) - 1)
  have s3 := hs (2 * (c : Int) + 1)
  have e0 : ((9007199254740992 : Int) : Rat) = 9007199254740992 := rfl
  have e1 : ((18014398509481984 : Int) : Rat) = 18014398509481984 := rfl
  have e2 : ((2 * (c : Int) - 1 : Int) : Rat) = 2 * (c : Rat) - 1 := by
    rw [Rat.intCast_sub, Rat.intCast_mul]; rfl
  have e3 : ((2 * (c : Int) + 1 : Int) : Rat) = 2 * (c : Rat) + 1 := by
    rw [Rat.intCast_add, Rat.intCast_mul]; rfl
  rw [e0] at s0
  rw [e1] at s1
  rw [e2] at s2
  rw [e3] at s3
  rw [e] at h0 h1 lo hi
  constructor
  · rcases h0 with h0 | h0
    · exact Or.inl h0
    · right; rw [e]
      have : ¬ s < 9007199254740992 * p2 (L - 1074 - 1) := by grind
      have := mt s0.2.1 this
      grind
  · rw [e]
    have : s < 18014398509481984 * p2 (L - 1074 - 1) := by grind
    have := s1.2.2 this
    grind
  · rw [e]
    rcases lo with lo | ⟨lo, p⟩
    · left
      have : (2 * (c : Rat) - 1) * p2 (L - 1074 - 1) < s := by grind
      have := s2.1.2 this
      grind
    · right
      refine ⟨?_, p⟩
      have a : ¬ (2 * (c : Rat) - 1) * p2 (L - 1074 - 1) < s := by grind
      have b : ¬ s < (2 * (c : Rat) - 1) * p2 (L - 1074 - 1) := by grind
      have a1 := mt s2.1.1 a
      have b1 := mt s2.2.1 b
      grind
  · rw [e]
    rcases hi with hi | ⟨hi, p⟩
    · left
      have : s < (2 * (c : Rat) + 1) * p2 (L - 1074 - 1) := by grind
      have := s3.2.2 this
      grind
    · right
      refine ⟨?_, p⟩
      have a : ¬ (2 * (c : Rat) + 1) * p2 (L - 1074 - 1) < s := by grind
      have b : ¬ s < (2 * (c : Rat) + 1) * p2 (L - 1074 - 1) := by grind
      have a1 := mt s3.1.1 a
      have b1 := mt s3.2.1 b
      grind

/-! ### the cut -/
theorem cut_even (neg : Bool) (n drop : Nat) :
    (2 * Toward.even.cut neg n drop * 2 ^ drop < 2 * n + 2 ^ drop ∨ (2 * Toward.even.cut neg n drop * 2 ^ drop = 2 * n + 2 ^ drop ∧ Toward.even.cut neg n drop % 2 = 0)) ∧
    (2 * n < 2 * Toward.even.cut neg n drop * 2 ^ drop + 2 ^ drop ∨ (2 * n = 2 * Toward.even.cut neg n drop * 2 ^ drop + 2 ^ drop ∧ Toward.even.cut neg n drop % 2 = 0)) := by
  by_cases hd : drop ≤ n.log2 + 2
  · have e : Toward.even.cut neg n drop = n / 2 ^ drop + (decide (2 ^ drop < 2 * (n % 2 ^ drop)) || (2 ^ drop == 2 * (n % 2 ^ drop) && n / 2 ^ drop % 2 == 1)).toNat := by
      simp only [Toward.cut, Nat.one_shiftLeft, Nat.min_eq_left hd]
    rw [e]
    generalize hg : 2 ^ drop = g
    have gp : 0 < g := by rw [← hg]; exact Nat.two_pow_pos _
    have hdm := Nat.div_add_mod n g
    have hlt := Nat.mod_lt n gp
    generalize n / g = a at *
    generalize n % g = b at *
    have hc : a * g = g * a := Nat.mul_comm _ _
    by_cases c1 : g < 2 * b
    · simp only [c1, decide_true, Bool.true_or, Bool.toNat_true]
      have : 2 * (a + 1) * g = 2 * (g * a) + 2 * g := by rw [← hc]; grind
      rw [this]; omega
    · simp only [c1, decide_false, Bool.false_or]
      have e1 : 2 * (a + 1) * g = 2 * (g * a) + 2 * g := by rw [← hc]; grind
      have e2 : 2 * (a + 0) * g = 2 * (g * a) := by rw [← hc]; grind
      by_cases c2 : g = 2 * b
      · by_cases c3 : a % 2 = 1
        · have : (g == 2 * b && a % 2 == 1) = true := by simp [c2, c3]
          rw [this, Bool.toNat_true, e1]; omega
        · have : (g == 2 * b && a % 2 == 1) = false := by simp [c3]
          rw [this, Bool.toNat_false, e2]; omega
      · have : (g == 2 * b && a % 2 == 1) = false := by simp [c2]
        rw [this, Bool.toNat_false, e2]; omega
  · have hn : 2 * n < 2 ^ (n.log2 + 2) := by
      have := @Nat.lt_log2_self n
      rw [Nat.pow_succ]; omega
    have hm : min drop (n.log2 + 2) = n.log2 + 2 := by omega
    have hle : 2 ^ (n.log2 + 2) ≤ 2 ^ drop := Nat.pow_le_pow_right (by omega) (by omega)
    have e : Toward.even.cut neg n drop = 0 := by
      simp only [Toward.cut, Nat.one_shiftLeft, hm]
      rw [Nat.div_eq_of_lt (by omega), Nat.mod_eq_of_lt (by omega)]
      have : ¬ 2 ^ (n.log2 + 2) < 2 * n := by omega
      simp [this]
    rw [e]
    omega

end Go.Proofs.Qxb6605993a.Fl
