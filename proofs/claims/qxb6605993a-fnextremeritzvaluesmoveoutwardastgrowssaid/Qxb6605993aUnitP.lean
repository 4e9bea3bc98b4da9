/- The plain law: a vector scaled by 1 over its norm is a unit vector up to rounding. -/
import Derived.Test.Qxb6605993aDotP
import Derived.Test.Qxb6605993aTol
namespace Go.Proofs.Qxb6605993a
open Ieee Fl

theorem rung_negW (x : Nat) : rung (negW x) = rung x := by
  unfold rung negW
  have := Nat.xor_mod_two_pow (a := x) (b := 9223372036854775808) (n := 63)
  rw [show (2 : Nat) ^ 63 = 9223372036854775808 from rfl] at this
  rw [this]; simp
theorem sgb_negW {x : Nat} (hx : x < 18446744073709551616) : sgb (negW x) = !sgb x := by
  unfold sgb negW
  have h := Nat.shiftRight_xor_distrib (a := x) (b := 9223372036854775808) (i := 63)
  rw [Nat.shiftRight_eq_div_pow, Nat.shiftRight_eq_div_pow, Nat.shiftRight_eq_div_pow, show (2 : Nat) ^ 63 = 9223372036854775808 from rfl] at h
  rw [h]
  have h2 : x / 9223372036854775808 = 0 ∨ x / 9223372036854775808 = 1 := by omega
  rcases h2 with h2 | h2 <;> rw [h2] <;> rfl
theorem val_negW {x : Nat} (hx : x < 18446744073709551616) : val (negW x) = - val x := by
  unfold val
  rw [rung_negW, sgb_negW hx]
  cases sgb x <;> simp [sv] <;> grind
theorem fin_negW {x : Nat} (h : Fl.Fin x) : Fl.Fin (negW x) := by unfold Fl.Fin at *; rw [rung_negW]; exact h

theorem lt_order {x y : Nat} (hx : Fl.Fin x) (hy : Fl.Fin y) : ltF x y = decide (val x < val y) := by
  have ho := order_fin hx hy
  unfold ltF
  by_cases h : val x < val y
  · rw [ho.1 h, decide_eq_true h]; rfl
  · rw [decide_eq_false h]
    by_cases h2 : val x = val y
    · rw [ho.2.1 h2]; rfl
    · rw [ho.2.2 (by grind)]; rfl
theorem gt_order {x y : Nat} (hx : Fl.Fin x) (hy : Fl.Fin y) : gtF x y = decide (val y < val x) := by
  have ho := order_fin hx hy
  unfold gtF
  by_cases h : val y < val x
  · rw [ho.2.2 h, decide_eq_true h]; rfl
  · rw [decide_eq_false h]
    by_cases h2 : val x = val y
    · rw [ho.2.1 h2]; rfl
    · rw [ho.1 (by grind)]; rfl
theorem le_orderF {x y : Nat} (hx : Fl.Fin x) (hy : Fl.Fin y) : leF x y = decide (val x ≤ val y) := by
  have ho := order_fin hx hy
  unfold leF
  by_cases h : val x < val y
  · rw [ho.1 h, decide_eq_true (by grind)]; rfl
  · by_cases h2 : val x = val y
    · rw [ho.2.1 h2, decide_eq_true (by grind)]; rfl
    · rw [ho.2.2 (by grind), decide_eq_false (by grind)]; rfl
theorem ge_orderF {x y : Nat} (hx : Fl.Fin x) (hy : Fl.Fin y) : geF x y = decide (val y ≤ val x) := by
  have ho := order_fin hx hy
  unfold geF
  by_cases h : val y < val x
  · rw [ho.2.2 h, decide_eq_true (by grind)]; rfl
  · by_cases h2 : val x = val y
    · rw [ho.2.1 h2, decide_eq_true (by grind)]; rfl
    · rw [ho.1 (by grind), decide_eq_false (by grind)]; rfl
theorem zero_order {x : Nat} (hx : Fl.Fin x) : zeroF x = decide (val x = 0) := by
  have ho := order_fin hx fin_zero
  rw [val_zero] at ho
  unfold zeroF
  by_cases h2 : val x = 0
  · rw [ho.2.1 h2, decide_eq_true h2]; rfl
  · rw [decide_eq_false h2]
    by_cases h : val x < 0
    · rw [ho.1 h]; rfl
    · rw [ho.2.2 (by grind)]; rfl

theorem zabs_fin {x : Nat} (hx : Fl.Fin x) (h64 : x < 18446744073709551616) : Fl.Fin (zabsF x) ∧ ((0 ≤ val x ∧ val (zabsF x) = val x) ∨ (val x < 0 ∧ val (zabsF x) = - val x)) := by
  unfold zabsF
  rw [lt_order hx fin_zero, val_zero]
  by_cases h : val x < 0
  · rw [decide_eq_true h, if_pos rfl]; exact ⟨fin_negW hx, Or.inr ⟨h, val_negW h64⟩⟩
  · rw [decide_eq_false h, if_neg (by decide)]; exact ⟨hx, Or.inl ⟨by grind, rfl⟩⟩

theorem val_one : val 4607182418800017408 = 1 := by
  have := val_at 1022 4503599627370496 (Or.inr (by omega)) (by omega) (by omega)
  rw [show 1022 * 4503599627370496 + 4503599627370496 = 4607182418800017408 from rfl] at this
  rw [this, show (((1022 : Nat) : Int) - 1074) = -52 by omega]
  have := p2_m52
  rw [show ((4503599627370496 : Nat) : Rat) = 4503599627370496 from rfl]; grind

/-- a small number of the size of a power of two -/
theorem p2_chain {a b c : Int} (h : a + b ≤ c) : p2 a * p2 b ≤ p2 c := by rw [← p2_add]; exact p2_mono h

theorem Fl.RNW.small {r : Rat} {z : Nat} (h : RNW r z) (h1 : r ≤ p2 1000) (h2 : -p2 1000 ≤ r) : Fl.Fin z ∧ RN r (val z) := by
  have := p2_lt (show (1000 : Int) < 1023 by omega)
  exact h.fin (by grind) (by grind)

/-- the sum of squares of numbers of at most 2 is finite -/
theorem dot_small {x : List Nat} {m : Nat} (hm : m ≤ 1048576) (hx : ∀ i, i < m → Fl.Fin (x.getD i 0) ∧ val (x.getD i 0) ≤ 2 ∧ -2 ≤ val (x.getD i 0)) (k : Nat) (hk : k ≤ m) :
    Fl.Fin (dotF x x k) ∧ 0 ≤ val (dotF x x k) ∧ val (dotF x x k) ≤ 8 * (k : Rat) := by
  induction k with
  | zero =>
    refine ⟨fin_zero, ?_, ?_⟩
    · show 0 ≤ val 0; rw [val_zero]; exact Rat.le_refl
    · show val 0 ≤ _; rw [val_zero, show ((0 : Nat) : Rat) = 0 from rfl]; grind
  | succ k ih =>
    obtain ⟨f1, d0, d1⟩ := ih (by omega)
    obtain ⟨fx, x1, x2⟩ := hx k (by omega)
    have kb : (k : Rat) ≤ 1048576 := Rat.natCast_le_natCast.2 (show k ≤ 1048576 by omega)
    have k0 : (0 : Rat) ≤ (k : Rat) := Rat.natCast_le_natCast.2 (Nat.zero_le k)
    have hbig : (16777216 : Rat) ≤ p2 1000 := by
      have : p2 24 = 16777216 := by rw [show (24 : Int) = ((24 : Nat) : Int) from rfl, p2_nat]; rfl
      rw [← this]; exact p2_mono (by omega)
    have sq0 := sqr_nonneg (val (x.getD k 0))
    have sq4 : val (x.getD k 0) * val (x.getD k 0) ≤ 4 := by
      have := Rat.mul_nonneg (show 0 ≤ 2 - val (x.getD k 0) by grind) (show 0 ≤ 2 + val (x.getD k 0) by grind)
      grind
    obtain ⟨fp, rp⟩ := (pf_mul fx fx).small (by grind) (by grind)
    have p4 : val (pf .mul (x.getD k 0) (x.getD k 0)) ≤ 4 := by
      have r4 := rn_repr 4 0 (by omega) (by omega)
      rw [p2_zero, Rat.mul_one] at r4
      exact rp.mono r4 sq4
    have p0 := rp.nonneg sq0
    have ek : ((k + 1 : Nat) : Rat) = (k : Rat) + 1 := by rw [Rat.natCast_add]; rfl
    obtain ⟨fs, rs⟩ := (pf_add f1 fp).small (by grind) (by grind)
    refine ⟨fs, rs.nonneg (by grind), ?_⟩
    have r8 := rn_repr (8 * (k + 1)) 0 (by omega) (by omega)
    rw [p2_zero, Rat.mul_one, Rat.natCast_mul, ek, show ((8 : Nat) : Rat) = 8 from rfl] at r8
    rw [ek]
    exact rs.mono r8 (by grind)

theorem scaleTo_get (y : List Nat) (a : Nat) (k : Nat) (hk : k ≤ y.length) (i : Nat) : (scaleTo y a k).getD i 0 = if i < k then pf .mul (y.getD i 0) a else y.getD i 0 := by
  induction k with
  | zero => rfl
  | succ k ih =>
    unfold scaleTo
    by_cases e : i = k
    · subst e
      rw [List.getD_eq_getElem?_getD, List.getElem?_set_self (by rw [scaleTo_length]; omega), if_pos (by omega)]; rfl
    · rw [List.getD_eq_getElem?_getD, List.getElem?_set_ne (by omega), ← List.getD_eq_getElem?_getD, ih (by omega)]
      by_cases h : i < k
      · rw [if_pos h, if_pos (by omega)]
      · rw [if_neg h, if_neg (by omega)]


/-- a rounding of a product, the product bounded by 2 -/
theorem sq_scaled {v x u eta : Rat} (hu : 0 ≤ u) (hu1 : u * 64 ≤ 1) (he : 0 ≤ eta) (he1 : eta * 64 ≤ 1) (v1 : v ≤ 2) (v2 : -2 ≤ v)
    (x1 : x ≤ v + (u * (if v < 0 then -v else v) + eta)) (x2 : v ≤ x + (u * (if v < 0 then -v else v) + eta)) :
    x * x ≤ v * v + 3 * u * (v * v) + 8 * eta ∧ v * v ≤ x * x + 3 * u * (v * v) + 8 * eta := by
  -- d = x - v, |d| ≤ u |v| + eta
  have key : ∀ a d : Rat, 0 ≤ a → a ≤ 2 → d ≤ u * a + eta → -d ≤ u * a + eta → (d * a ≤ u * (a * a) + 2 * eta) ∧ (-(d * a) ≤ u * (a * a) + 2 * eta) ∧ d * d ≤ u * (a * a) + 2 * eta := by
    intro a d a0 a2 d1 d2
    have t1 := Rat.mul_le_mul_of_nonneg_right d1 a0
    have t2 := Rat.mul_le_mul_of_nonneg_right d2 a0
    have t3 := Rat.mul_le_mul_of_nonneg_left a2 he
    have ua := Rat.mul_nonneg hu a0
    have s0 : 0 ≤ u * a + eta := by grind
    have sq : d * d ≤ (u * a + eta) * (u * a + eta) := by
      have := Rat.mul_nonneg (show 0 ≤ (u * a + eta) - d by grind) (show 0 ≤ (u * a + eta) + d by grind)
      grind
    have q1 : u * (u * (a * a)) ≤ (1 / 2) * (u * (a * a)) := Rat.mul_le_mul_of_nonneg_right (by grind) (Rat.mul_nonneg hu (Rat.mul_nonneg a0 a0))
    have q2 : u * a * eta ≤ (1 / 4) * eta := Rat.mul_le_mul_of_nonneg_right (by have := Rat.mul_le_mul_of_nonneg_left a2 hu; grind) he
    have q3 : eta * eta ≤ (1 / 4) * eta := Rat.mul_le_mul_of_nonneg_right (by grind) he
    have q4 := Rat.mul_nonneg hu (Rat.mul_nonneg a0 a0)
    refine ⟨by grind, by grind, by grind⟩
  have d0 := sqr_nonneg (x - v)
  by_cases hv : v < 0
  · rw [if_pos hv] at x1 x2
    obtain ⟨k1, k2, k3⟩ := key (-v) (-(x - v)) (by grind) (by grind) (by grind) (by grind)
    have e : x * x = v * v + 2 * (-(x - v) * -v) + -(x - v) * -(x - v) := by grind
    have e2 : -v * -v = v * v := by grind
    rw [e2] at k1 k2 k3
    constructor <;> grind
  · rw [if_neg hv] at x1 x2
    obtain ⟨k1, k2, k3⟩ := key v (x - v) (by grind) (by grind) (by grind) (by grind)
    have e : x * x = v * v + 2 * ((x - v) * v) + (x - v) * (x - v) := by grind
    constructor <;> grind

theorem sumSq_scale {y x : List Nat} {a u eta : Rat} (m : Nat)
    (h : ∀ i, i < m → val (x.getD i 0) * val (x.getD i 0) ≤ (val (y.getD i 0) * a) * (val (y.getD i 0) * a) + 3 * u * ((val (y.getD i 0) * a) * (val (y.getD i 0) * a)) + 8 * eta ∧
      (val (y.getD i 0) * a) * (val (y.getD i 0) * a) ≤ val (x.getD i 0) * val (x.getD i 0) + 3 * u * ((val (y.getD i 0) * a) * (val (y.getD i 0) * a)) + 8 * eta) (k : Nat) (hk : k ≤ m) :
    sumSq x k ≤ a * a * sumSq y k + 3 * u * (a * a * sumSq y k) + 8 * (k : Rat) * eta ∧ a * a * sumSq y k ≤ sumSq x k + 3 * u * (a * a * sumSq y k) + 8 * (k : Rat) * eta := by
  induction k with
  | zero =>
    show (0 : Rat) ≤ a * a * 0 + 3 * u * (a * a * 0) + 8 * ((0 : Nat) : Rat) * eta ∧ a * a * 0 ≤ (0 : Rat) + 3 * u * (a * a * 0) + 8 * ((0 : Nat) : Rat) * eta
    rw [show ((0 : Nat) : Rat) = 0 from rfl]
    constructor <;> grind
  | succ k ih =>
    obtain ⟨i1, i2⟩ := ih (by omega)
    obtain ⟨h1, h2⟩ := h k (by omega)
    have ek : ((k + 1 : Nat) : Rat) = (k : Rat) + 1 := by rw [Rat.natCast_add]; rfl
    have eS : sumSq y (k + 1) = sumSq y k + val (y.getD k 0) * val (y.getD k 0) := rfl
    have eX : sumSq x (k + 1) = sumSq x k + val (x.getD k 0) * val (x.getD k 0) := rfl
    rw [eS, eX, ek]
    constructor <;> grind

end Go.Proofs.Qxb6605993a
