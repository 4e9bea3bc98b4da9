/- What a word stands for; rounding of a signed number; the operations on finite words. -/
import Derived.Test.Qxb6605993aFlC
namespace Go.Proofs.Qxb6605993a.Fl
open Ieee

def rung (x : Nat) : Nat := x % 9223372036854775808
def sgb (x : Nat) : Bool := x / 9223372036854775808 % 2 == 1
def Fin (x : Nat) : Prop := rung x < 9218868437227405312
def sv (s : Bool) (r : Rat) : Rat := if s then -r else r
def val (x : Nat) : Rat := sv (sgb x) (mv (rung x))

theorem sv_true (r : Rat) : sv true r = -r := rfl
theorem sv_false (r : Rat) : sv false r = r := rfl

theorem word_rung (s : Bool) {k : Nat} (h : k < 9223372036854775808) : rung (double.word s k) = k := by
  unfold rung Format.word
  rw [d_sw]
  cases s <;> simp <;> omega
theorem word_sgb (s : Bool) {k : Nat} (h : k < 9223372036854775808) : sgb (double.word s k) = s := by
  unfold sgb Format.word
  rw [d_sw]
  cases s
  · have : k / 9223372036854775808 = 0 := by omega
    simp [this]
  · have : (9223372036854775808 + k) / 9223372036854775808 = 1 := by omega
    simp [this]
theorem word_val (s : Bool) {k : Nat} (h : k < 9223372036854775808) : val (double.word s k) = sv s (mv k) := by
  unfold val; rw [word_rung s h, word_sgb s h]

theorem read_fin {x : Nat} (h : Fin x) : ∃ m p, double.read x = .number (sgb x) m p ∧ mv (rung x) = (m : Rat) * p2 p ∧ -1074 ≤ p := by
  unfold Fin at h
  unfold Format.read
  simp only [d_sw, d_binade, d_inf, d_least]
  rw [show x % 9223372036854775808 = rung x from rfl, show (x / 9223372036854775808 % 2 == 1) = sgb x from rfl]
  by_cases h1 : rung x < 4503599627370496
  · refine ⟨rung x, -1074, ?_, ?_, by omega⟩
    · rw [if_pos h1]
    · unfold mv mg; rw [if_pos h1]
  · refine ⟨4503599627370496 + rung x % 4503599627370496, -1074 + (rung x / 4503599627370496 - 1 : Nat), ?_, ?_, by omega⟩
    · rw [if_neg h1, if_pos h]
    · unfold mv mg; rw [if_neg h1, Rat.natCast_mul, ← p2_nat, Int.add_comm, p2_add]; grind

/-- v is the rounding of r (no bound on the exponent above) -/
def RN (r v : Rat) : Prop := (0 ≤ r ∧ ∃ k, IsRN r k ∧ v = mv k) ∨ (r ≤ 0 ∧ ∃ k, IsRN (-r) k ∧ v = - mv k)

theorem isRN_zero {k : Nat} (h : IsRN 0 k) : k = 0 := by
  have := h.eq (a := k) (b := 0) (by have := isRN_mv 0; rw [mv_zero] at this; exact this)
  exact this

theorem RN.mono {r s v w : Rat} (a : RN r v) (b : RN s w) (h : r ≤ s) : v ≤ w := by
  rcases a with ⟨a0, k, ak, rfl⟩ | ⟨a0, k, ak, rfl⟩
  · rcases b with ⟨b0, l, bl, rfl⟩ | ⟨b0, l, bl, rfl⟩
    · exact mv_le (ak.mono bl h)
    · have hr : r = 0 := by grind
      have hs : s = 0 := by grind
      subst hr; subst hs
      rw [show (-(0 : Rat)) = 0 by grind] at bl
      rw [isRN_zero ak, isRN_zero bl, mv_zero]; grind
  · rcases b with ⟨b0, l, bl, rfl⟩ | ⟨b0, l, bl, rfl⟩
    · have := mv_nonneg k; have := mv_nonneg l; grind
    · have := mv_le (bl.mono ak (by grind)); grind

theorem RN.eq {r v w : Rat} (a : RN r v) (b : RN r w) : v = w :=
  Rat.le_antisymm (a.mono b Rat.le_refl) (b.mono a Rat.le_refl)

theorem RN.neg {r v : Rat} (a : RN r v) : RN (-r) (-v) := by
  rcases a with ⟨a0, k, ak, rfl⟩ | ⟨a0, k, ak, rfl⟩
  · exact Or.inr ⟨by grind, k, by rw [show - -r = r by grind]; exact ak, rfl⟩
  · exact Or.inl ⟨by grind, k, ak, by grind⟩

theorem rn_val (x : Nat) : RN (val x) (val x) := by
  unfold val
  have := mv_nonneg (rung x)
  cases sgb x
  · exact Or.inl ⟨this, _, isRN_mv _, rfl⟩
  · refine Or.inr ⟨by rw [sv_true]; grind, rung x, ?_, rfl⟩
    rw [sv_true, show - -mv (rung x) = mv (rung x) by grind]; exact isRN_mv _

theorem rn_zero : RN 0 0 := Or.inl ⟨Rat.le_refl, 0, by have := isRN_mv 0; rw [mv_zero] at this; exact this, mv_zero.symm⟩
theorem RN.nonneg {r v : Rat} (a : RN r v) (h : 0 ≤ r) : 0 ≤ v := rn_zero.mono a h
theorem RN.nonpos {r v : Rat} (a : RN r v) (h : r ≤ 0) : v ≤ 0 := a.mono rn_zero h

/-- the word z is the rounding of r -/
def RNW (r : Rat) (z : Nat) : Prop :=
  ∃ (s : Bool) (k : Nat), z = double.word s (min k 9218868437227405312) ∧ (s = false → 0 ≤ r) ∧ (s = true → r ≤ 0) ∧ IsRN (sv s r) k

theorem mv_inf : mv 9218868437227405312 = p2 1024 := by
  have := mv_at 2046 4503599627370496 (Or.inr (Nat.le_refl _)) (by omega)
  have e : 2046 * 4503599627370496 + 4503599627370496 = 9218868437227405312 := by omega
  rw [e] at this
  rw [this]
  have e2 : ((4503599627370496 : Nat) : Rat) = p2 52 := by rw [p2_52]; rfl
  rw [e2, ← p2_add]
  congr 1

theorem lt_inf_of {r : Rat} {k : Nat} (h : IsRN r k) (hr : r < p2 1023) : k < 9218868437227405312 := by
  have e : mv (2045 * 4503599627370496 + 4503599627370496) = p2 1023 := by
    rw [mv_at 2045 4503599627370496 (Or.inr (Nat.le_refl _)) (by omega)]
    have e2 : ((4503599627370496 : Nat) : Rat) = p2 52 := by rw [p2_52]; rfl
    rw [e2, ← p2_add]; congr 1
  have := h.le_mv (b := 2045 * 4503599627370496 + 4503599627370496) (by rw [e]; grind)
  omega

theorem RNW.fin {r : Rat} {z : Nat} (h : RNW r z) (h1 : r < p2 1023) (h2 : -p2 1023 < r) : Fin z ∧ RN r (val z) := by
  obtain ⟨s, k, rfl, hs0, hs1, hk⟩ := h
  have hlt : k < 9218868437227405312 := lt_inf_of hk (by cases s <;> simp only [sv] <;> grind)
  rw [Nat.min_eq_left (by omega)]
  refine ⟨by unfold Fin; rw [word_rung s (by omega)]; exact hlt, ?_⟩
  rw [word_val s (by omega)]
  cases s
  · exact Or.inl ⟨hs0 rfl, k, hk, rfl⟩
  · exact Or.inr ⟨hs1 rfl, k, hk, rfl⟩

/-- either finite and rounded, or an infinity (of a number that is great) -/
theorem RNW.cases {r : Rat} {z : Nat} (h : RNW r z) : (Fin z ∧ RN r (val z)) ∨ (z = 9218868437227405312 ∧ p2 1023 ≤ r) ∨ (z = 18442240474082181120 ∧ r ≤ -p2 1023) := by
  by_cases h1 : r < p2 1023
  · by_cases h2 : -p2 1023 < r
    · exact Or.inl (h.fin h1 h2)
    · obtain ⟨s, k, rfl, hs0, hs1, hk⟩ := h
      have hp := p2_pos 1023
      cases s
      · have := hs0 rfl; exfalso; grind
      · by_cases hl : k < 9218868437227405312
        · left
          rw [Nat.min_eq_left (by omega)]
          exact ⟨by unfold Fin; rw [word_rung true (by omega)]; exact hl, by rw [word_val true (by omega)]; exact Or.inr ⟨hs1 rfl, k, hk, rfl⟩⟩
        · right; right
          rw [Nat.min_eq_right (by omega)]
          exact ⟨by unfold Format.word; rw [d_sw]; rfl, by grind⟩
  · obtain ⟨s, k, rfl, hs0, hs1, hk⟩ := h
    have hp := p2_pos 1023
    cases s
    · by_cases hl : k < 9218868437227405312
      · left
        rw [Nat.min_eq_left (by omega)]
        exact ⟨by unfold Fin; rw [word_rung false (by omega)]; exact hl, by rw [word_val false (by omega)]; exact Or.inl ⟨hs0 rfl, k, hk, rfl⟩⟩
      · right; left
        rw [Nat.min_eq_right (by omega)]
        exact ⟨by unfold Format.word; rfl, by grind⟩
    · have := hs1 rfl; exfalso; grind

/-- a datum written -/
theorem write_number (s : Bool) (m : Nat) (p : Int) : RNW (sv s ((m : Rat) * p2 p)) (double.write (.number s m p)) := by
  have hp := p2_pos p
  by_cases h : m = 0
  · subst h
    have e : sv s (((0 : Nat) : Rat) * p2 p) = 0 := by
      have : ((0 : Nat) : Rat) = 0 := rfl
      rw [this]; cases s <;> simp only [sv] <;> grind
    rw [e]
    refine ⟨s, 0, by rw [Nat.zero_min]; exact nearest_zero s p, fun _ => Rat.le_refl, fun _ => Rat.le_refl, ?_⟩
    have : sv s 0 = mv 0 := by rw [mv_zero]; cases s <;> rfl
    rw [this]; exact isRN_mv 0
  · obtain ⟨R, e, hR⟩ := nearest_same s m p h _ (Or.inl rfl)
    have hm : 0 ≤ (m : Rat) * p2 p := Rat.mul_nonneg (by exact_mod_cast Rat.natCast_le_natCast.2 (Nat.zero_le m)) (Rat.le_of_lt hp)
    refine ⟨s, R, e, ?_, ?_, ?_⟩
    · intro hs; subst hs; exact hm
    · intro hs; subst hs; rw [sv_true]; grind
    · cases s
      · exact hR
      · rw [sv_true, sv_true, show - -((m : Rat) * p2 p) = (m : Rat) * p2 p by grind]; exact hR

theorem signed_val (s : Bool) (m : Nat) (i base : Int) (h : base ≤ i) : ((signed s m (i - base).toNat : Int) : Rat) * p2 base = sv s ((m : Rat) * p2 i) := by
  have e : p2 i = p2 (i - base) * p2 base := by rw [← p2_add]; congr 1; omega
  have e2 : (((m <<< (i - base).toNat : Nat) : Int) : Rat) = (m : Rat) * p2 (i - base) := by
    rw [Nat.shiftLeft_eq]
    have : (((m * 2 ^ (i - base).toNat : Nat) : Int) : Rat) = ((m * 2 ^ (i - base).toNat : Nat) : Rat) := rfl
    rw [this, Rat.natCast_mul, ← p2_nat]
    congr 2; omega
  cases s
  · have : signed false m (i - base).toNat = ((m <<< (i - base).toNat : Nat) : Int) := rfl
    rw [this, e2, e, sv_false]; grind
  · have : signed true m (i - base).toNat = -((m <<< (i - base).toNat : Nat) : Int) := rfl
    rw [this, Rat.intCast_neg, e2, e, sv_true]; grind

theorem natAbs_val (t : Int) (b : Bool) (hb : t ≠ 0 → b = decide (t < 0)) : sv b ((t.natAbs : Nat) : Rat) = (t : Rat) := by
  have cast : ((t.natAbs : Nat) : Rat) = ((t.natAbs : Int) : Rat) := rfl
  rcases Int.lt_trichotomy t 0 with h | h | h
  · rw [hb (by omega), decide_eq_true h, sv_true, cast, ← Rat.intCast_neg]; congr 1; omega
  · subst h; cases b <;> rfl
  · rw [hb (by omega), decide_eq_false (by omega), sv_false, cast]; congr 1; omega

theorem sum_number (s t : Bool) (m n : Nat) (i j : Int) : ∃ z, ((Datum.number s m i).sum (Datum.number t n j)).map double.write = some z ∧ RNW (sv s ((m : Rat) * p2 i) + sv t ((n : Rat) * p2 j)) z := by
  refine ⟨_, rfl, ?_⟩
  have h1 := signed_val s m i (min i j) (by omega)
  have h2 := signed_val t n j (min i j) (by omega)
  have hw := fun b => write_number b ((signed s m (i - min i j).toNat + signed t n (j - min i j).toNat).natAbs) (min i j)
  generalize htot : signed s m (i - min i j).toNat + signed t n (j - min i j).toNat = tot at hw
  have e : sv s ((m : Rat) * p2 i) + sv t ((n : Rat) * p2 j) = (tot : Rat) * p2 (min i j) := by
    rw [← h1, ← h2, ← htot, Rat.intCast_add]; grind
  have hb : ∀ b : Bool, (tot ≠ 0 → b = decide (tot < 0)) → RNW (sv s ((m : Rat) * p2 i) + sv t ((n : Rat) * p2 j)) (double.write (.number b tot.natAbs (min i j))) := by
    intro b hb
    have := hw b
    have e3 : sv b ((tot.natAbs : Rat) * p2 (min i j)) = (tot : Rat) * p2 (min i j) := by
      rw [← natAbs_val tot b hb]
      cases b <;> simp only [sv] <;> grind
    rw [e3, ← e] at this
    exact this
  exact hb (if tot = 0 then s && t else decide (tot < 0)) (by intro h; rw [if_neg h])

theorem add_rn {x y : Nat} (hx : Fin x) (hy : Fin y) : ∃ z, double.add x y = some z ∧ RNW (val x + val y) z := by
  obtain ⟨m, i, e1, v1, _⟩ := read_fin hx
  obtain ⟨n, j, e2, v2, _⟩ := read_fin hy
  unfold Format.add
  rw [e1, e2]
  unfold val
  rw [v1, v2]
  exact sum_number _ _ _ _ _ _

theorem sub_rn {x y : Nat} (hx : Fin x) (hy : Fin y) : ∃ z, double.sub x y = some z ∧ RNW (val x - val y) z := by
  obtain ⟨m, i, e1, v1, _⟩ := read_fin hx
  obtain ⟨n, j, e2, v2, _⟩ := read_fin hy
  unfold Format.sub
  rw [e1, e2]
  unfold val
  rw [v1, v2]
  have := sum_number (sgb x) (!sgb y) m n i j
  have e : sv (sgb x) ((m : Rat) * p2 i) - sv (sgb y) ((n : Rat) * p2 j) = sv (sgb x) ((m : Rat) * p2 i) + sv (!sgb y) ((n : Rat) * p2 j) := by
    cases sgb y <;> simp [sv] <;> grind
  rw [e]
  exact this

theorem mul_rn {x y : Nat} (hx : Fin x) (hy : Fin y) : ∃ z, double.mul x y = some z ∧ RNW (val x * val y) z := by
  obtain ⟨m, i, e1, v1, _⟩ := read_fin hx
  obtain ⟨n, j, e2, v2, _⟩ := read_fin hy
  unfold Format.mul
  rw [e1, e2]
  refine ⟨_, rfl, ?_⟩
  have := write_number (sgb x ^^ sgb y) (m * n) (i + j)
  have e : sv (sgb x ^^ sgb y) (((m * n : Nat) : Rat) * p2 (i + j)) = val x * val y := by
    unfold val
    rw [v1, v2, Rat.natCast_mul, p2_add]
    cases sgb x <;> cases sgb y <;> simp [sv] <;> grind
  rw [e] at this
  exact this

/-- the order of two finite words is that of their values -/
theorem order_fin {x y : Nat} (hx : Fin x) (hy : Fin y) :
    (val x < val y → double.order x y = some .lt) ∧ (val x = val y → double.order x y = some .eq) ∧ (val y < val x → double.order x y = some .gt) := by
  obtain ⟨m, i, e1, v1, _⟩ := read_fin hx
  obtain ⟨n, j, e2, v2, _⟩ := read_fin hy
  unfold Format.order val
  rw [e1, e2, v1, v2]
  simp only [Datum.order]
  have h1 := signed_val (sgb x) m i (min i j) (by omega)
  have h2 := signed_val (sgb y) n j (min i j) (by omega)
  rw [← h1, ← h2]
  have hp := p2_pos (min i j)
  generalize signed (sgb x) m (i - min i j).toNat = a
  generalize signed (sgb y) n (j - min i j).toNat = b
  refine ⟨fun h => ?_, fun h => ?_, fun h => ?_⟩
  · have := Rat.intCast_lt_intCast.1 (Rat.lt_of_mul_lt_mul_right h (Rat.le_of_lt hp))
    exact congrArg some (by simp only [compare, compareOfLessAndEq]; rw [if_pos this])
  · have h3 : (a : Rat) = (b : Rat) := by
      clear h1 h2 v1 v2
      generalize (a : Rat) = a' at *
      generalize (b : Rat) = b' at *
      generalize p2 (min i j) = g at *
      have : g ≠ 0 := by grind
      grind
    have := Rat.intCast_inj.1 h3
    subst this
    exact congrArg some (by simp only [compare, compareOfLessAndEq]; rw [if_neg (by omega), if_pos trivial])
  · have := Rat.intCast_lt_intCast.1 (Rat.lt_of_mul_lt_mul_right h (Rat.le_of_lt hp))
    exact congrArg some (by simp only [compare, compareOfLessAndEq]; rw [if_neg (by omega), if_neg (by omega)])

end Go.Proofs.Qxb6605993a.Fl
