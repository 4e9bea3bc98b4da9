/- The plain law of FnExtremeRitzValuesBetweenRayleighAndGershgorin. -/
import Derived.Test.Qxb6605993aL4F
import Derived.Test.Qxb6605993aEnt
namespace Go.Proofs.Qxb6605993a
open Ieee Fl

section
variable {al be : List Nat} {m : Nat}

theorem inp_hi (H : InpB al be m) {th : Nat} (h : Bd th (p2 26)) : Inp al be th m := ⟨fun i hi => H.al i hi, fun i hi => H.of i hi, h⟩

theorem gt_nan {x y : Nat} (h : isN x = true) : gtF x y = false := by
  obtain ⟨s, t, e⟩ := read_nan h
  unfold gtF Format.order
  rw [e]
  simp [Datum.order]
theorem isN_zabs0 {x : Nat} (h : isN x = true) : isN (zabsF x) = true := by
  have : cn (zabsF x) = zabsF NAN := by rw [cn_zabs, cn_of_isN h]
  have e : zabsF NAN = NAN := by decide
  rw [e] at this
  cases hn : isN (zabsF x)
  · rw [cn_of_not hn] at this
    rw [this] at hn
    exact hn.symm.trans isN_NAN
  · rfl
theorem word_of_cn {x z : Nat} (h : cn x = z) (hf : Fl.Fin z) : x = z := by
  cases hn : isN x
  · rw [cn_of_not hn] at h; exact h
  · rw [cn_of_isN hn] at h; rw [← h] at hf; exact absurd hf not_fin_NAN

/-- an error bound is at most |beta| times a little more than 1 -/
theorem err_le {b x he last : Nat} (hb : Bd b (p2 24)) (hx : EntOk x) (hh : cn he = pf .mul b (absF x)) (fl : Fl.Fin last) (rl : RN (aV b * (1 + 4504 * p2 (-52))) (val last)) :
    gtF (zabsF he) last = false := by
  rcases hx with hx | ⟨fx, x1, x2⟩
  · have e : pf .mul b (absF x) = NAN := pf_nan (Or.inr ((isN_absF x).trans hx))
    rw [e] at hh
    have hn : isN he = true := by
      cases hn : isN he
      · rw [cn_of_not hn] at hh; rw [hh] at hn; exact hn.symm.trans isN_NAN
      · rfl
    exact gt_nan (isN_zabs0 hn)
  · have fa := fin_absF fx
    have va := abs_val x
    have n24 := nums.1
    have q := pf_mul hb.1 fa
    have h48 : p2 (-48) = 16 * p2 (-52) := by
      have : p2 4 = 16 := by rw [show (4 : Int) = ((4 : Nat) : Int) from rfl, p2_nat]; rfl
      rw [← this, ← p2_add]; rfl
    have p52 := p2_pos (-52)
    have h52 := one_p2.2
    have vb := aV_facts b
    have ub := aV_le hb
    rw [n24] at ub
    have ax : val (absF x) ≤ 1 + 16 * p2 (-52) := by rw [← h48]; grind
    have k1 := Rat.mul_le_mul_of_nonneg_left (show val (absF x) ≤ 1 + 4504 * p2 (-52) by grind) vb.1
    have k2 := Rat.mul_nonneg vb.1 va.1
    have k3 := Rat.mul_le_mul_of_nonneg_right ub (show 0 ≤ 1 + 4504 * p2 (-52) by grind)
    have k4 : val b * val (absF x) ≤ aV b * val (absF x) := Rat.mul_le_mul_of_nonneg_right vb.2.1 va.1
    have k5 : -aV b * val (absF x) ≤ val b * val (absF x) := Rat.mul_le_mul_of_nonneg_right vb.2.2.1 va.1
    have big := nums.2.2
    obtain ⟨fz, rz⟩ := q.small (by grind) (by grind)
    have eh := word_of_cn hh fz
    have lz := rz.mono rl (by grind)
    have lz' := rl.neg.mono rz (by grind)
    rw [eh]
    have z := zabs_val fz (pf_lt _ _ _)
    have az := aV_facts (pf .mul b (absF x))
    rw [gt_order z.1 fl, z.2]
    exact decide_eq_false (by grind)

theorem fine4 (H : InpB al be m) (a64 : W64 al) (o64 : W64 be) (hmx : m ≤ 65536) (hb : Bd (be.getD (m - 1) 0) (p2 24)) {hi lo he le : Nat} (R : Ritz al be m hi lo he le) : Fine4 al be m hi lo he le := by
  have Hh := high_of H R.ahi
  have Hl := low_of H R.alo
  obtain ⟨_, fs, s1, s2, _⟩ := slack_facts H a64 o64
  have um := UM_facts H
  have m1 := H.m1
  have n26 : p2 26 = 67108864 := by rw [show (26 : Int) = ((26 : Nat) : Int) from rfl, p2_nat]; rfl
  obtain ⟨b1, c1, b2, c2⟩ := rh_facts H o64 (C := val hi + 80 * UM al be m) (D := val lo - 80 * UM al be m)
    (fun i hi => by have := Hh.diag H hi; have := Hl.diag H hi; constructor <;> grind)
    (fun i hi => by have := Hh.off H hi; have := Hl.off H hi; constructor <;> grind) m (Nat.le_refl _)
  obtain ⟨b3, b4, g⟩ := gh_facts H o64 m (Nat.le_refl _)
  obtain ⟨i, hi1, hi2⟩ := Hh.disc H
  obtain ⟨k, hk1, hk2⟩ := Hl.disc H
  have gi := (g i hi1).1
  have gk := (g k hk1).2
  have d1 := Hh.diag H m1
  have d2 := Hl.diag H m1
  have bh := Hh.bd.2
  have bl := Hl.bd.2
  rw [n26] at bh bl
  have B1 := b1.2
  have B2 := b2.2
  have B3 := b3.2
  have B4 := b4.2
  have big := nums.2.2
  obtain ⟨f1, r1⟩ := (pf_sub b1.1 fs).small (by grind) (by grind)
  obtain ⟨f2, r2⟩ := (pf_add b3.1 fs).small (by grind) (by grind)
  obtain ⟨f3, r3⟩ := (pf_add b2.1 fs).small (by grind) (by grind)
  obtain ⟨f4, r4⟩ := (pf_sub b4.1 fs).small (by grind) (by grind)
  obtain ⟨f5, r5⟩ := (pf_add Hh.bd.1 fs).small (by grind) (by grind)
  have z := zabs_val hb.1 (o64.get (m - 1))
  obtain ⟨fc, vc⟩ := val_12
  have q6 := pf_mul z.1 fc
  rw [z.2, vc] at q6
  have vb := aV_facts (be.getD (m - 1) 0)
  have ub := aV_le hb
  rw [nums.1] at ub
  have p52 := p2_pos (-52)
  have h52 := one_p2.2
  have k3 := Rat.mul_le_mul_of_nonneg_right ub (show 0 ≤ 1 + 4504 * p2 (-52) by grind)
  have k4 := Rat.mul_nonneg vb.1 (show 0 ≤ 1 + 4504 * p2 (-52) by grind)
  obtain ⟨f6, r6⟩ := q6.small (by grind) (by grind)
  refine ⟨f1, f2, f3, f4, f5, f6, ?_, ?_, ?_, ?_, ?_, ?_, ?_⟩
  · rw [ge_orderF Hh.bd.1 f1]
    exact decide_eq_true (r1.mono (rn_val _) (by grind))
  · rw [le_orderF Hh.bd.1 f2]
    exact decide_eq_true ((rn_val _).mono r2 (by grind))
  · rw [le_orderF Hl.bd.1 f3]
    exact decide_eq_true ((rn_val _).mono r3 (by grind))
  · rw [ge_orderF Hl.bd.1 f4]
    exact decide_eq_true (r4.mono (rn_val _) (by grind))
  · rw [le_orderF Hl.bd.1 f5]
    exact decide_eq_true ((rn_val _).mono r5 (by grind))
  · exact err_le hb (eig_entry (inp_hi H Hh.bd) m1 hmx (m - 1) (by omega)) R.ehi f6 r6
  · exact err_le hb (eig_entry (inp_hi H Hl.bd) m1 hmx (m - 1) (by omega)) R.elo f6 r6
end
end Go.Proofs.Qxb6605993a
