/- 1 over the norm, and what scaling by it gives. -/
import Derived.Test.Qxb6605993aUnitP
namespace Go.Proofs.Qxb6605993a
open Ieee Fl

theorem val_lt_inf {x : Nat} (h : Fl.Fin x) : val x < p2 1024 := by
  unfold Fl.Fin at h
  have h1 := mv_lt h
  rw [mv_inf] at h1
  have h2 := mv_nonneg (rung x)
  unfold val
  cases sgb x
  · exact h1
  · rw [sv_true]; grind

theorem sq_lt {a b : Rat} (ha : 0 ≤ a) (h : a < b) : a * a < b * b := by
  have h1 := Rat.mul_le_mul_of_nonneg_left (Rat.le_of_lt h) ha
  have h2 := Rat.mul_lt_mul_of_pos_right h (show 0 < b by grind)
  grind

/-- the algebra of the norm: T = a a S is near 1 -/
theorem near_one {a N s D S u w e : Rat} (hu : 0 ≤ u) (hu1 : u * 1024 ≤ 1) (hw : w = u + u / 2) (he : 0 ≤ e) (he1 : e * 1024 ≤ 1)
    (hS : 0 < S) (hs : 0 < s) (hN : 0 ≤ N) (aN1 : a * N ≤ 1 + u) (aN2 : 1 - u ≤ a * N) (n1 : N ≤ s + u * s) (n2 : s ≤ N + u * s)
    (s1 : s * s ≤ D + D * w) (s2 : D ≤ s * s + D * w) (d1 : D ≤ S + e * S) (d2 : S ≤ D + e * S) :
    a * a * S ≤ 1 + 2 * e + 20 * u ∧ 1 - 2 * e - 20 * u ≤ a * a * S := by
  subst hw
  have uS := Rat.mul_nonneg hu (Rat.le_of_lt hS)
  have eS := Rat.mul_nonneg he (Rat.le_of_lt hS)
  have us := Rat.mul_nonneg hu (Rat.le_of_lt hs)
  have ss := Rat.mul_nonneg (Rat.le_of_lt hs) (Rat.le_of_lt hs)
  have D0 : 0 ≤ D := by
    have : e * S ≤ (1 / 1024) * S := Rat.mul_le_mul_of_nonneg_right (by grind) (Rat.le_of_lt hS)
    grind
  have uD := Rat.mul_nonneg hu D0
  -- N N against s s
  have NN2 : s * s - 2 * u * (s * s) ≤ N * N := by
    have h0 : 0 ≤ s - u * s := by
      have : u * s ≤ (1 / 1024) * s := Rat.mul_le_mul_of_nonneg_right (by grind) (Rat.le_of_lt hs)
      grind
    have h1 : s - u * s ≤ N := by grind
    have h2 := Rat.mul_le_mul_of_nonneg_left h1 h0
    have h3 := Rat.mul_le_mul_of_nonneg_right h1 hN
    have h4 := Rat.mul_nonneg us us
    grind
  have NN1 : N * N ≤ s * s + 3 * u * (s * s) := by
    have h2 := Rat.mul_le_mul_of_nonneg_left n1 hN
    have h3 := Rat.mul_le_mul_of_nonneg_right n1 (show 0 ≤ s + u * s by grind)
    have h4 : u * (u * (s * s)) ≤ (1 / 1024) * (u * (s * s)) := Rat.mul_le_mul_of_nonneg_right (by grind) (Rat.mul_nonneg hu ss)
    have h5 := Rat.mul_nonneg hu ss
    grind
  -- s s against S
  have q1 : u * (e * S) ≤ (1 / 1024) * (u * S) := by
    have := Rat.mul_le_mul_of_nonneg_right (show e ≤ 1 / 1024 by grind) uS
    grind
  have uD1 : u * D ≤ u * S + u * (e * S) := by have := Rat.mul_le_mul_of_nonneg_left d1 hu; grind
  have ss2 : S - e * S - (2 * u) * S ≤ s * s := by grind
  have ss1 : s * s ≤ S + e * S + (2 * u) * S := by grind
  have uu : u * (u * S) ≤ (1 / 1024) * (u * S) := Rat.mul_le_mul_of_nonneg_right (by grind) uS
  have uss1 : u * (s * s) ≤ u * S + u * (e * S) + 2 * (u * (u * S)) := by have := Rat.mul_le_mul_of_nonneg_left ss1 hu; grind
  have NS2 : S - e * S - 5 * (u * S) ≤ N * N := by grind
  have NS1 : N * N ≤ S + e * S + 6 * (u * S) := by grind
  -- a N a N
  have aa := sqr_nonneg a
  have P1 : a * a * (N * N) ≤ 1 + 3 * u := by
    have h0 : 0 ≤ a * N := by grind
    have h1 := Rat.mul_le_mul_of_nonneg_left aN1 h0
    have h2 := Rat.mul_le_mul_of_nonneg_right aN1 (show 0 ≤ 1 + u by grind)
    have h3 : u * u ≤ (1 / 1024) * u := Rat.mul_le_mul_of_nonneg_right (by grind) hu
    grind
  have P2 : 1 - 2 * u ≤ a * a * (N * N) := by
    have h0 : 0 ≤ 1 - u := by grind
    have h1 := Rat.mul_le_mul_of_nonneg_left aN2 h0
    have h2 := Rat.mul_le_mul_of_nonneg_right aN2 (show 0 ≤ a * N by grind)
    have h3 := Rat.mul_nonneg hu hu
    grind
  generalize hT : a * a * S = T
  have T0 : 0 ≤ T := by rw [← hT]; exact Rat.mul_nonneg aa (Rat.le_of_lt hS)
  have k1 := Rat.mul_le_mul_of_nonneg_left NS2 aa
  have k2 := Rat.mul_le_mul_of_nonneg_left NS1 aa
  have e1 : a * a * (S - e * S - 5 * (u * S)) = T - e * T - 5 * (u * T) := by rw [← hT]; grind
  have e2 : a * a * (S + e * S + 6 * (u * S)) = T + e * T + 6 * (u * T) := by rw [← hT]; grind
  rw [e1] at k1
  rw [e2] at k2
  have eT : e * T ≤ (1 / 1024) * T := Rat.mul_le_mul_of_nonneg_right (by grind) T0
  have uT : u * T ≤ (1 / 1024) * T := Rat.mul_le_mul_of_nonneg_right (by grind) T0
  have T2 : T ≤ 2 := by grind
  have eT2 := Rat.mul_le_mul_of_nonneg_left T2 he
  have uT2 := Rat.mul_le_mul_of_nonneg_left T2 hu
  constructor <;> grind

theorem u_small : p2 (-53) * 1024 ≤ 1 := by have := p2_m53; have := p2_pos (-53); grind
theorem w_eq : 3 * p2 (-54) = p2 (-53) + p2 (-53) / 2 := by
  have : p2 (-53) = p2 (-54) * 2 := by rw [← p2_succ]; rfl
  grind

/-- the factor of a scaling to length 1 -/
theorem norm_factor {D : Nat} {S e : Rat} (hD : Fl.Fin D) (sD : sgb D = false) (hS : p2 (-400) ≤ S) (he : 0 ≤ e) (he1 : e * 1024 ≤ 1) (d1 : val D ≤ S + e * S) (d2 : S ≤ val D + e * S) :
    Fl.Fin (pf .quo 4607182418800017408 (psq D)) ∧ 0 < val (pf .quo 4607182418800017408 (psq D)) ∧
    val (pf .quo 4607182418800017408 (psq D)) * val (pf .quo 4607182418800017408 (psq D)) * S ≤ 1 + 2 * e + 20 * p2 (-53) ∧
    1 - 2 * e - 20 * p2 (-53) ≤ val (pf .quo 4607182418800017408 (psq D)) * val (pf .quo 4607182418800017408 (psq D)) * S ∧
    (∃ N, psq D = N ∧ Fl.Fin N ∧ 0 < val N ∧ val (pf .quo 4607182418800017408 (psq D)) * val N ≤ 1 + p2 (-53) ∧ val D ≤ val N * val N + 8 * p2 (-53) * val D) := by
  have pS := p2_pos (-400)
  have S0 : 0 < S := by grind
  have eS : e * S ≤ (1 / 1024) * S := Rat.mul_le_mul_of_nonneg_right (by grind) (Rat.le_of_lt S0)
  have D0 : 0 < val D := by grind
  obtain ⟨z, s, hz, hr, s0, s1, s2⟩ := sqrt_rn hD sD (by grind)
  have hu := u_small
  have u0 := p2_pos (-53)
  rw [w_eq] at s1 s2
  have hpsq : psq D = z := by unfold psq; rw [hz]; rfl
  rw [hpsq]
  have Dhi := val_lt_inf hD
  have uD : p2 (-53) * val D ≤ (1 / 1024) * val D := Rat.mul_le_mul_of_nonneg_right (by grind) (Rat.le_of_lt D0)
  -- s is neither great nor small
  have shi : s ≤ p2 513 := by
    rcases Rat.le_total (a := s) (b := p2 513) with h | h
    · exact h
    · by_cases h2 : s = p2 513
      · rw [h2]; exact Rat.le_refl
      · exfalso
        have h3 := sq_lt (Rat.le_of_lt (p2_pos 513)) (show p2 513 < s by grind)
        rw [← p2_add, show (513 : Int) + 513 = 1026 by rfl] at h3
        have h4 : p2 1026 = p2 1024 * 4 := by
          rw [show (1026 : Int) = 1024 + 2 by rfl, p2_add, show (2 : Int) = ((2 : Nat) : Int) from rfl, p2_nat]; rfl
        grind
  have slo : p2 (-202) ≤ s := by
    rcases Rat.le_total (a := p2 (-202)) (b := s) with h | h
    · exact h
    · by_cases h2 : s = p2 (-202)
      · rw [h2]; exact Rat.le_refl
      · exfalso
        have h3 := sq_lt (Rat.le_of_lt s0) (show s < p2 (-202) by grind)
        rw [← p2_add, show (-202 : Int) + -202 = -404 by rfl] at h3
        have h4 : p2 (-400) = p2 (-404) * 16 := by
          rw [show (-400 : Int) = -404 + 4 by rfl, p2_add, show (4 : Int) = ((4 : Nat) : Int) from rfl, p2_nat]; rfl
        have := p2_pos (-404)
        grind
  have hb1 : p2 513 ≤ p2 1000 := p2_mono (by omega)
  have hb2 : p2 (-1022) ≤ p2 (-202) := p2_mono (by omega)
  have p1000 := p2_pos 1000
  obtain ⟨fN, rN⟩ := hr.small (by grind) (by grind)
  obtain ⟨n1, n2⟩ := rN.rel (by grind)
  have us : p2 (-53) * s ≤ (1 / 1024) * s := Rat.mul_le_mul_of_nonneg_right (by grind) (Rat.le_of_lt s0)
  have N0 : 0 < val z := by grind
  have Nne : val z ≠ 0 := by grind
  -- the quotient
  have hq := pf_quo fin_one fN Nne
  rw [val_one] at hq
  have q0 : (1 / val z) * val z = 1 := by grind
  have qpos : 0 < 1 / val z := by rw [Rat.div_def, Rat.one_mul]; exact Rat.inv_pos.2 N0
  have Nhi : val z ≤ p2 514 := by
    have : p2 514 = p2 513 * 2 := by rw [← p2_succ]; rfl
    grind
  have Nlo : p2 (-203) ≤ val z := by
    have : p2 (-202) = p2 (-203) * 2 := by rw [← p2_succ]; rfl
    grind
  have qlo : p2 (-1022) ≤ 1 / val z := by
    have h1 := Rat.mul_le_mul_of_nonneg_left Nhi (Rat.le_of_lt (p2_pos (-514)))
    rw [← p2_add, show (-514 : Int) + 514 = 0 by rfl, p2_zero] at h1
    have h2 := p2_mono (show (-1022 : Int) ≤ -514 by omega)
    have h3 : p2 (-514) ≤ 1 / val z := by
      refine Rat.le_of_mul_le_mul_right (c := val z) ?_ N0
      rw [q0]; exact h1
    grind
  have qhi : 1 / val z ≤ p2 203 := by
    refine Rat.le_of_mul_le_mul_right (c := val z) ?_ N0
    rw [q0]
    have h1 := Rat.mul_le_mul_of_nonneg_left Nlo (Rat.le_of_lt (p2_pos 203))
    rw [← p2_add, show (203 : Int) + -203 = 0 by rfl, p2_zero] at h1
    exact h1
  have hb3 : p2 203 ≤ p2 1000 := p2_mono (by omega)
  obtain ⟨fa, ra⟩ := hq.small (by grind) (by grind)
  obtain ⟨a1, a2⟩ := ra.rel qlo
  generalize val (pf .quo 4607182418800017408 z) = a at *
  generalize hQ : 1 / val z = q at *
  have uq1 : p2 (-53) * q * val z = p2 (-53) := by rw [Rat.mul_assoc, q0, Rat.mul_one]
  clear hQ
  have aN1 : a * val z ≤ 1 + p2 (-53) := by
    have := Rat.mul_le_mul_of_nonneg_right a1 (Rat.le_of_lt N0)
    grind
  have aN2 : 1 - p2 (-53) ≤ a * val z := by
    have := Rat.mul_le_mul_of_nonneg_right a2 (Rat.le_of_lt N0)
    grind
  have uq : p2 (-53) * q ≤ (1 / 1024) * q := Rat.mul_le_mul_of_nonneg_right (by grind) (Rat.le_of_lt qpos)
  have apos : 0 < a := by grind
  have R := near_one (Rat.le_of_lt u0) hu rfl he he1 S0 s0 (Rat.le_of_lt N0) aN1 aN2 n1 n2 s1 s2 d1 d2
  refine ⟨fa, apos, R.1, R.2, z, rfl, fN, N0, aN1, ?_⟩
  -- D ≤ N N + 8 u D
  have hss : s * s ≤ val z * val z + 2 * (p2 (-53) * (s * s)) := by
    have h1 : s - p2 (-53) * s ≤ val z := by grind
    have h0 : 0 ≤ s - p2 (-53) * s := by grind
    have h2 := Rat.mul_le_mul_of_nonneg_left h1 h0
    have h3 := Rat.mul_le_mul_of_nonneg_right h1 (Rat.le_of_lt N0)
    have h4 := Rat.mul_nonneg (Rat.mul_nonneg (Rat.le_of_lt u0) (Rat.le_of_lt s0)) (Rat.mul_nonneg (Rat.le_of_lt u0) (Rat.le_of_lt s0))
    grind
  have us2 := Rat.mul_le_mul_of_nonneg_left s1 (Rat.le_of_lt u0)
  have uuD : p2 (-53) * (p2 (-53) * val D) ≤ (1 / 1024) * (p2 (-53) * val D) := Rat.mul_le_mul_of_nonneg_right (by grind) (Rat.mul_nonneg (Rat.le_of_lt u0) (Rat.le_of_lt D0))
  have ud0 := Rat.mul_nonneg (Rat.le_of_lt u0) (Rat.le_of_lt D0)
  grind

end Go.Proofs.Qxb6605993a
