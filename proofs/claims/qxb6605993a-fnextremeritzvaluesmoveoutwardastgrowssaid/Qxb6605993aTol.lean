/- The plain law behind 'decisionTolerance' (no Go in sight). -/
import Derived.Test.Qxb6605993aFlE
namespace Go.Proofs.Qxb6605993a.Fl
open Ieee

theorem val_at (L c : Nat) (h : L = 0 ∨ 4503599627370496 ≤ c) (hc : c ≤ 9007199254740992) (hL : L ≤ 2044) : val (L * 4503599627370496 + c) = c * p2 (L - 1074) := by
  unfold val
  have e1 : sgb (L * 4503599627370496 + c) = false := by
    unfold sgb
    have : (L * 4503599627370496 + c) / 9223372036854775808 = 0 := by omega
    rw [this]; rfl
  have e2 : rung (L * 4503599627370496 + c) = L * 4503599627370496 + c := by unfold rung; omega
  rw [e1, e2, sv_false, mv_at L c h hc]

theorem fin_at (L c : Nat) (hc : c ≤ 9007199254740992) (hL : L ≤ 2044) : Fin (L * 4503599627370496 + c) := by
  unfold Fin rung; omega

theorem natR (n : Nat) : ((n : Nat) : Rat) = ((n : Int) : Rat) := rfl

/-- 1e-4 -/
theorem val_c : val 4547007122018943789 = 7378697629483821 * p2 (-66) := by
  have := val_at 1008 7378697629483821 (Or.inr (by omega)) (by omega) (by omega)
  rw [show 1008 * 4503599627370496 + 7378697629483821 = 4547007122018943789 from rfl] at this
  rw [this]; rfl
theorem fin_c : Fin 4547007122018943789 := fin_at 1008 7378697629483821 (by omega) (by omega)

/-- 10000 -/
theorem val_t : val 4666723172467343360 = 10000 := by
  have := val_at 1035 5497558138880000 (Or.inr (by omega)) (by omega) (by omega)
  rw [show 1035 * 4503599627370496 + 5497558138880000 = 4666723172467343360 from rfl] at this
  rw [this]
  have e : p2 39 * p2 (((1035 : Nat) : Int) - 1074) = 1 := by rw [← p2_add]; exact p2_zero
  have e2 : p2 39 = 549755813888 := by rw [show (39 : Int) = ((39 : Nat) : Int) from rfl, p2_nat]; rfl
  have e3 : ((5497558138880000 : Nat) : Rat) = 5497558138880000 := rfl
  rw [e2] at e
  rw [e3]; grind
theorem fin_t : Fin 4666723172467343360 := fin_at 1035 5497558138880000 (by omega) (by omega)

/-- 0.99999999 -/
theorem val_k : val 4607182418709945415 = 9007199164668999 * p2 (-53) := by
  have := val_at 1021 9007199164668999 (Or.inr (by omega)) (by omega) (by omega)
  rw [show 1021 * 4503599627370496 + 9007199164668999 = 4607182418709945415 from rfl] at this
  rw [this]; rfl
theorem fin_k : Fin 4607182418709945415 := fin_at 1021 9007199164668999 (by omega) (by omega)

/-- r is the tolerance at the degree N (N is the degree or 1) -/
def IsTol (N : Int) (r : Nat) : Prop := Fin r ∧ ∃ f, RN (N : Rat) f ∧ RN (val 4547007122018943789 * f) (val r)

theorem p2_66 : p2 (-53) = 8192 * p2 (-66) := by
  have e : p2 (-53) = p2 13 * p2 (-66) := by rw [← p2_add]; rfl
  rw [e, show (13 : Int) = ((13 : Nat) : Int) from rfl, p2_nat]; rfl
theorem p2_66_64 : p2 (-66) * 73786976294838206464 = 1 := by
  have : p2 66 = 73786976294838206464 := by rw [show (66 : Int) = ((66 : Nat) : Int) from rfl, p2_nat]; rfl
  rw [← this]; exact p2_neg_mul 66

theorem big : (18446744073709551616 : Rat) < p2 1023 := by
  have : p2 64 = 18446744073709551616 := by rw [show (64 : Int) = ((64 : Nat) : Int) from rfl, p2_nat]; rfl
  rw [← this]; exact p2_lt (by omega)

theorem f_range {N : Int} {f : Rat} (h1 : 1 ≤ N) (h2 : N ≤ 9223372036854775807) (hf : RN (N : Rat) f) : 1 ≤ f ∧ f ≤ 9223372036854775808 := by
  have a : (1 : Rat) ≤ (N : Rat) := Rat.intCast_le_intCast.2 h1
  have b : (N : Rat) ≤ 9223372036854775808 := by
    have := Rat.intCast_le_intCast.2 (show N ≤ 9223372036854775808 by omega); exact this
  have r1 := rn_repr 1 0 (by omega) (by omega)
  have r2 := rn_repr 4503599627370496 11 (by omega) (by omega)
  have e1 : ((1 : Nat) : Rat) * p2 0 = 1 := by rw [p2_zero, Rat.mul_one]; rfl
  have e2 : ((4503599627370496 : Nat) : Rat) * p2 11 = 9223372036854775808 := by
    rw [show (11 : Int) = ((11 : Nat) : Int) from rfl, p2_nat, ← Rat.natCast_mul]; rfl
  rw [e1] at r1
  rw [e2] at r2
  exact ⟨r1.mono hf a, hf.mono r2 b⟩

theorem tol_ex (N : Int) (h1 : 1 ≤ N) (h2 : N ≤ 9223372036854775807) :
    ∃ r, double.mul 4547007122018943789 (FloatKind.nearest .f64 N) = some r ∧ IsTol N r := by
  obtain ⟨hf, hr⟩ := ofInt_fin N (by omega) (by omega)
  obtain ⟨r, e, hw⟩ := mul_rn fin_c hf
  refine ⟨r, e, ?_⟩
  have hb := f_range h1 h2 hr
  have hc := p2_66_64
  have hp := p2_pos (-66)
  have hbig := big
  have h3 := Rat.mul_le_mul_of_nonneg_left hb.2 (Rat.le_of_lt hp)
  have h4 := Rat.mul_le_mul_of_nonneg_left hb.1 (Rat.le_of_lt hp)
  have hv := val_c
  have := hw.fin (by rw [hv]; grind) (by rw [hv]; grind)
  exact ⟨this.1, _, hr, this.2⟩

theorem tol_mono {M N : Int} {r s : Nat} (hr : IsTol M r) (hs : IsTol N s) (h : M ≤ N) : val r ≤ val s := by
  obtain ⟨_, f, hf, hr⟩ := hr
  obtain ⟨_, g, hg, hs⟩ := hs
  have h1 := hf.mono hg (Rat.intCast_le_intCast.2 h)
  have hp := p2_pos (-66)
  refine hr.mono hs (Rat.mul_le_mul_of_nonneg_left h1 ?_)
  rw [val_c]; grind

theorem tol_floor {N : Int} {r : Nat} (hr : IsTol N r) (h1 : 1 ≤ N) (h2 : N ≤ 9223372036854775807) :
    ∃ z, double.mul r 4666723172467343360 = some z ∧ Fin z ∧ val 4607182418709945415 ≤ val z := by
  obtain ⟨hfin, f, hf, hr⟩ := hr
  have hb := f_range h1 h2 hf
  have hp := p2_pos (-66)
  have hc := p2_66_64
  have hbig := big
  have h3 := Rat.mul_le_mul_of_nonneg_left hb.2 (Rat.le_of_lt hp)
  have h4 := Rat.mul_le_mul_of_nonneg_left hb.1 (Rat.le_of_lt hp)
  have ge : val 4547007122018943789 ≤ val r := (rn_val 4547007122018943789).mono hr (by rw [val_c]; grind)
  have r2 := rn_repr 4503599627370496 11 (by omega) (by omega)
  have e2 : ((4503599627370496 : Nat) : Rat) * p2 11 = 9223372036854775808 := by
    rw [show (11 : Int) = ((11 : Nat) : Int) from rfl, p2_nat, ← Rat.natCast_mul]; rfl
  rw [e2] at r2
  have le : val r ≤ 9223372036854775808 := hr.mono r2 (by rw [val_c]; grind)
  obtain ⟨z, e, hw⟩ := mul_rn hfin fin_t
  refine ⟨z, e, ?_⟩
  rw [val_t] at hw
  have big2 : (100000000000000000000000 : Rat) < p2 1023 := by
    have : p2 100 = 1267650600228229401496703205376 := by rw [show (100 : Int) = ((100 : Nat) : Int) from rfl, p2_nat]; rfl
    have h := p2_lt (show (100 : Int) < 1023 by omega)
    grind
  rw [val_c] at ge
  have hz := hw.fin (by grind) (by grind)
  refine ⟨hz.1, (rn_val 4607182418709945415).mono hz.2 ?_⟩
  rw [val_k, p2_66]
  grind

theorem tol_strict {M N : Int} {r s : Nat} (hr : IsTol M r) (hs : IsTol N s) (h1 : 1 ≤ M) (h : M < N) (h2 : N ≤ 1073741824) : val r < val s := by
  obtain ⟨_, f, hf, hr⟩ := hr
  obtain ⟨_, g, hg, hs⟩ := hs
  have em : f = (M : Rat) := by
    have := rn_repr_int M 0 (by omega) (by omega) (by omega)
    rw [p2_zero, Rat.mul_one] at this; exact hf.eq this
  have en : g = (N : Rat) := by
    have := rn_repr_int N 0 (by omega) (by omega) (by omega)
    rw [p2_zero, Rat.mul_one] at this; exact hg.eq this
  have a : (1 : Rat) ≤ (M : Rat) := Rat.intCast_le_intCast.2 h1
  have b : (M : Rat) + 1 ≤ (N : Rat) := by
    have := Rat.intCast_le_intCast.2 (show M + 1 ≤ N by omega)
    rw [Rat.intCast_add] at this; exact this
  have c : (N : Rat) ≤ 1073741824 := Rat.intCast_le_intCast.2 h2
  subst em; subst en
  have hp := p2_pos (-66)
  have hlow : ∀ t : Rat, 1 ≤ t → p2 (-1022) ≤ val 4547007122018943789 * t := by
    intro t ht
    have h5 := Rat.mul_le_mul_of_nonneg_left ht (Rat.le_of_lt hp)
    have h6 := p2_mono (show (-1022 : Int) ≤ -66 by omega)
    rw [val_c]; grind
  have e1 := (hr.rel (hlow _ a)).1
  have e2 := (hs.rel (hlow _ (by grind))).2
  have u := p2_m53
  have up := p2_pos (-53)
  have hv := val_c
  have vpos : 0 < val 4547007122018943789 := by rw [hv]; grind
  generalize val 4547007122018943789 = v at *
  generalize p2 (-53) = w at *
  generalize (M : Rat) = m at *
  generalize (N : Rat) = n at *
  have k1 := Rat.mul_le_mul_of_nonneg_left c (Rat.le_of_lt (Rat.mul_pos up vpos))
  have k2 := Rat.mul_le_mul_of_nonneg_left b (Rat.le_of_lt vpos)
  have k3 := Rat.mul_le_mul_of_nonneg_left b (Rat.le_of_lt (Rat.mul_pos up vpos))
  have k4 := Rat.mul_pos up vpos
  have u2 : w * v * 9007199254740992 = v := by grind
  clear hlow hv
  grind

/-- how the six comparisons read off the values -/
theorem le_order {x y : Nat} (hx : Fin x) (hy : Fin y) (h : val x ≤ val y) : (double.order x y == some .lt || double.order x y == some .eq) = true := by
  have ho := order_fin hx hy
  by_cases h1 : val x < val y
  · rw [ho.1 h1]; rfl
  · rw [ho.2.1 (by grind)]; rfl
theorem ge_order {x y : Nat} (hx : Fin x) (hy : Fin y) (h : val y ≤ val x) : (double.order x y == some .gt || double.order x y == some .eq) = true := by
  have ho := order_fin hx hy
  by_cases h1 : val y < val x
  · rw [ho.2.2 h1]; rfl
  · rw [ho.2.1 (by grind)]; rfl

end Go.Proofs.Qxb6605993a.Fl
