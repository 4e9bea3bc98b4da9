/- scale(x, 1/norm(x)) gives a unit vector, where the norm is neither 0 nor infinite. -/
import Derived.Test.Qxb6605993aNorm
namespace Go.Proofs.Qxb6605993a
open Ieee Fl

def factorF (y : List Nat) (m : Nat) : Nat := pf .quo 4607182418800017408 (psq (dotF y y m))
def unitF (y : List Nat) (m : Nat) : List Nat := scaleTo y (factorF y m) m

theorem val_eps15 : val 4382569440205035030 = 5070602400912918 * p2 (-102) := by
  have := val_at 972 5070602400912918 (Or.inr (by omega)) (by omega) (by omega)
  rw [show 972 * 4503599627370496 + 5070602400912918 = 4382569440205035030 from rfl] at this
  rw [this]; rfl
theorem fin_eps15 : Fl.Fin 4382569440205035030 := fin_at 972 5070602400912918 (by omega) (by omega)
theorem eps15_ge : 9 * p2 (-53) ≤ val 4382569440205035030 ∧ val 4382569440205035030 ≤ 1 := by
  have h : p2 (-53) = p2 (-102) * 562949953421312 := by
    rw [show (-53 : Int) = -102 + 49 by rfl, p2_add, show (49 : Int) = ((49 : Nat) : Int) from rfl, p2_nat]; rfl
  have hu := p2_m53
  have hp := p2_pos (-102)
  rw [val_eps15]
  constructor
  · rw [h]; grind
  · grind

/-- the last comparison -/
theorem unit_end {M U eta D : Rat} (hU : 0 < U) (hU1 : U * 4294967296 ≤ 1) (heU : eta * 4096 ≤ U) (hM0 : 0 ≤ M) (hM : M ≤ 65536)
    (d1 : D - 1 ≤ (8 * M + 37) * U) (d2 : 1 - D ≤ (8 * M + 37) * U) {s r c f : Rat} (s1 : s ≤ (D - 1) + (U * ((8 * M + 37) * U) + eta)) (s2 : -s ≤ (1 - D) + (U * ((8 * M + 37) * U) + eta))
    (hc : 9 * U ≤ c) (hf : f = M + 8) (hr : c * f ≤ r + U * (c * f)) (hc1 : c ≤ 1) : s ≤ r ∧ -s ≤ r := by
  subst hf
  have MU := Rat.mul_nonneg hM0 (Rat.le_of_lt hU)
  have b1 : U * ((8 * M + 37) * U) ≤ U := by
    have h1 : (8 * M + 37) * U ≤ 1 := by
      have := Rat.mul_le_mul_of_nonneg_right hM (Rat.le_of_lt hU); grind
    have := Rat.mul_le_mul_of_nonneg_left h1 (Rat.le_of_lt hU); grind
  have b2 : 9 * U * (M + 8) ≤ c * (M + 8) := Rat.mul_le_mul_of_nonneg_right hc (by grind)
  have b3 : U * (c * (M + 8)) ≤ U * 65544 := by
    have h1 : c * (M + 8) ≤ 1 * (M + 8) := Rat.mul_le_mul_of_nonneg_right hc1 (by grind)
    have := Rat.mul_le_mul_of_nonneg_left (show c * (M + 8) ≤ 65544 by grind) (Rat.le_of_lt hU)
    exact this
  -- that is too crude: use the relative form
  have b4 : c * (M + 8) - U * (c * (M + 8)) ≥ 9 * U * (M + 8) - U * (9 * U * (M + 8)) := by
    have h1 : 0 ≤ (1 - U) * (c * (M + 8) - 9 * U * (M + 8)) := Rat.mul_nonneg (by grind) (by grind)
    grind
  have b5 : U * (9 * U * (M + 8)) ≤ U := by
    have h1 : 9 * U * (M + 8) ≤ 1 := by
      have := Rat.mul_le_mul_of_nonneg_right hM (Rat.le_of_lt hU); grind
    have := Rat.mul_le_mul_of_nonneg_left h1 (Rat.le_of_lt hU); grind
  constructor <;> grind

theorem eta_small : p2 (-1075) * 1267650600228229401496703205376 ≤ p2 (-900) := by
  have : p2 100 = 1267650600228229401496703205376 := by rw [show (100 : Int) = ((100 : Nat) : Int) from rfl, p2_nat]; rfl
  rw [← this, ← p2_add]; exact p2_mono (by omega)

theorem scale_unit {y : List Nat} {m : Nat} (hl : y.length = m) (hm : m ≤ 65536) (hn : ∀ i, i < m → isN (y.getD i 0) = false) (hf : Fl.Fin (dotF y y m)) (hbig : p2 (-400) ≤ sumSq y m) :
    (∀ i, i < m → Fl.Fin ((unitF y m).getD i 0) ∧ val ((unitF y m).getD i 0) ≤ 1 + p2 (-48) ∧ -(1 + p2 (-48)) ≤ val ((unitF y m).getD i 0)) ∧
    isUnitF (unitF y m) m = true ∧ 1 / 2 ≤ sumSq (unitF y m) m := by
  obtain ⟨g1, g2, g3, g4⟩ := dot_err (by omega) hn m (Nat.le_refl _) hf
  have sD : sgb (dotF y y m) = false := by
    rcases (dot_nonneg hn m (Nat.le_refl _)).1 with ⟨_, h⟩ | h
    · exact h
    · rw [h] at hf; exact absurd hf (not_fin_inf inf_INFW)
  have M0 : (0 : Rat) ≤ (m : Rat) := Rat.natCast_le_natCast.2 (Nat.zero_le m)
  have MM : (m : Rat) ≤ 65536 := Rat.natCast_le_natCast.2 hm
  have U0 := p2_pos (-53)
  have U1 := p2_m53
  have E0 := p2_pos (-1075)
  have E1 := eta_small
  have E2 : p2 (-900) ≤ p2 (-400) * p2 (-53) := by rw [← p2_add]; exact p2_mono (by omega)
  have E3 : p2 (-900) ≤ p2 (-53) := p2_mono (by omega)
  have P4 := p2_pos (-400)
  have P9 := p2_pos (-900)
  have S0 : 0 < sumSq y m := by grind
  have MU := Rat.mul_le_mul_of_nonneg_left MM (Rat.le_of_lt U0)
  have MU0 := Rat.mul_nonneg (Rat.le_of_lt U0) M0
  have ME := Rat.mul_le_mul_of_nonneg_left MM (Rat.le_of_lt E0)
  have SU := Rat.mul_le_mul_of_nonneg_right hbig (Rat.le_of_lt U0)
  have hh : 4 * (m : Rat) * p2 (-1075) ≤ p2 (-53) * sumSq y m := by grind
  obtain ⟨fa, apos, t1, t2, N, _, fN, N0, aN, dN⟩ := norm_factor (e := 2 * ((m : Rat) + 1) * p2 (-53) + p2 (-53)) hf sD hbig (by grind) (by grind) (by grind) (by grind)
  have ea : factorF y m = pf .quo 4607182418800017408 (psq (dotF y y m)) := rfl
  rw [← ea] at fa apos t1 t2 aN
  have hget : ∀ i, i < m → (unitF y m).getD i 0 = pf .mul (y.getD i 0) (factorF y m) := fun i hi => by
    unfold unitF
    rw [scaleTo_get y _ m (by omega), if_pos hi]
  generalize hA : factorF y m = A at *
  -- each product is bounded
  have D0 := val_nonneg sD
  have hprod : ∀ i, i < m → val (y.getD i 0) * val A ≤ 1 + 16 * p2 (-53) ∧ -(1 + 16 * p2 (-53)) ≤ val (y.getD i 0) * val A := by
    intro i hi
    obtain ⟨fp, hp⟩ := g4 i hi
    have hr := ((sq_nonneg (hn i hi)).2.2 fp).2
    have v0 := sqr_nonneg (val (y.getD i 0))
    have pe := (hr.err (b := val (y.getD i 0) * val (y.getD i 0)) Rat.le_refl (by grind)).2
    -- v v ≤ N N (1 + 11 u) in effect
    have S1 : sumSq y m ≤ 2 * val (dotF y y m) := by
      have : (2 * ((m : Rat) + 1) * p2 (-53)) * sumSq y m ≤ (1 / 8) * sumSq y m := Rat.mul_le_mul_of_nonneg_right (by grind) (Rat.le_of_lt S0)
      have : p2 (-53) * sumSq y m ≤ (1 / 8) * sumSq y m := Rat.mul_le_mul_of_nonneg_right (by grind) (Rat.le_of_lt S0)
      grind
    have etaD : p2 (-1075) ≤ p2 (-53) * val (dotF y y m) := by
      have := Rat.mul_le_mul_of_nonneg_left S1 (Rat.le_of_lt U0)
      grind
    have N2 := Rat.mul_nonneg (Rat.le_of_lt N0) (Rat.le_of_lt N0)
    have uD : p2 (-53) * val (dotF y y m) ≤ (1 / 1024) * val (dotF y y m) := Rat.mul_le_mul_of_nonneg_right (by grind) D0
    have DN : val (dotF y y m) ≤ 2 * (val N * val N) := by grind
    have uDN := Rat.mul_le_mul_of_nonneg_left DN (Rat.le_of_lt U0)
    have uv : p2 (-53) * (val (y.getD i 0) * val (y.getD i 0)) ≤ (1 / 1024) * (val (y.getD i 0) * val (y.getD i 0)) := Rat.mul_le_mul_of_nonneg_right (by grind) v0
    have vD : val (y.getD i 0) * val (y.getD i 0) ≤ 2 * val (dotF y y m) := by grind
    have uvD := Rat.mul_le_mul_of_nonneg_left vD (Rat.le_of_lt U0)
    have vN : val (y.getD i 0) * val (y.getD i 0) ≤ val N * val N + 22 * (p2 (-53) * (val N * val N)) := by grind
    have aa := sqr_nonneg (val A)
    have k1 := Rat.mul_le_mul_of_nonneg_left vN aa
    have PP : val A * val A * (val N * val N) ≤ 1 + 3 * p2 (-53) := by
      have h0 : 0 ≤ val A * val N := Rat.mul_nonneg (Rat.le_of_lt apos) (Rat.le_of_lt N0)
      have h1 := Rat.mul_le_mul_of_nonneg_left aN h0
      have h2 := Rat.mul_le_mul_of_nonneg_right aN (show 0 ≤ 1 + p2 (-53) by grind)
      have h3 : p2 (-53) * p2 (-53) ≤ (1 / 1024) * p2 (-53) := Rat.mul_le_mul_of_nonneg_right (by grind) (Rat.le_of_lt U0)
      grind
    have uPP := Rat.mul_le_mul_of_nonneg_left PP (Rat.le_of_lt U0)
    have uu : p2 (-53) * p2 (-53) ≤ (1 / 1024) * p2 (-53) := Rat.mul_le_mul_of_nonneg_right (by grind) (Rat.le_of_lt U0)
    have va2 : (val (y.getD i 0) * val A) * (val (y.getD i 0) * val A) ≤ 1 + 26 * p2 (-53) := by grind
    generalize val (y.getD i 0) * val A = z at va2 ⊢
    have far : ∀ t : Rat, 1 + 16 * p2 (-53) < t → 1 + 26 * p2 (-53) < t * t := by
      intro t ht
      have := sq_lt (show 0 ≤ 1 + 16 * p2 (-53) by grind) ht
      have := Rat.mul_nonneg (Rat.le_of_lt U0) (Rat.le_of_lt U0)
      grind
    constructor
    · rcases Rat.le_total (a := z) (b := 1 + 16 * p2 (-53)) with h | h
      · exact h
      · by_cases h2 : z = 1 + 16 * p2 (-53)
        · rw [h2]; exact Rat.le_refl
        · have := far z (by grind); exfalso; grind
    · rcases Rat.le_total (a := -(1 + 16 * p2 (-53))) (b := z) with h | h
      · exact h
      · by_cases h2 : z = -(1 + 16 * p2 (-53))
        · rw [h2]; exact Rat.le_refl
        · have := far (-z) (by grind); exfalso; grind
  -- the entries
  have h48 : p2 (-48) = 32 * p2 (-53) := by
    rw [show (-48 : Int) = -53 + 5 by rfl, p2_add, show (5 : Int) = ((5 : Nat) : Int) from rfl, p2_nat]
    rw [show ((2 ^ 5 : Nat) : Rat) = 32 from rfl]; grind
  have hbig1 : (4 : Rat) ≤ p2 1000 := by
    have : p2 2 = 4 := by rw [show (2 : Int) = ((2 : Nat) : Int) from rfl, p2_nat]; rfl
    rw [← this]; exact p2_mono (by omega)
  have hent : ∀ i, i < m → Fl.Fin (pf .mul (y.getD i 0) A) ∧ RN (val (y.getD i 0) * val A) (val (pf .mul (y.getD i 0) A)) := by
    intro i hi
    have hp := hprod i hi
    exact (pf_mul (g1 i hi) fa).small (by grind) (by grind)
  have hxb : ∀ i, i < m → Fl.Fin ((unitF y m).getD i 0) ∧ val ((unitF y m).getD i 0) ≤ 1 + p2 (-48) ∧ -(1 + p2 (-48)) ≤ val ((unitF y m).getD i 0) := by
    intro i hi
    rw [hget i hi]
    obtain ⟨f, r⟩ := hent i hi
    have hp := hprod i hi
    have er := r.err (b := 1 + 16 * p2 (-53)) (by grind) (by grind)
    have uu : p2 (-53) * p2 (-53) ≤ (1 / 1024) * p2 (-53) := Rat.mul_le_mul_of_nonneg_right (by grind) (Rat.le_of_lt U0)
    refine ⟨f, ?_, ?_⟩ <;> rw [h48] <;> grind
  -- the sums
  have hX := sumSq_scale (y := y) (x := unitF y m) (a := val A) (u := p2 (-53)) (eta := p2 (-1075)) m (by
    intro i hi
    rw [hget i hi]
    obtain ⟨f, r⟩ := hent i hi
    have hp := hprod i hi
    generalize hz : val (y.getD i 0) * val A = z at *
    have er := r.err (b := if z < 0 then -z else z) (by split <;> grind) (by split <;> grind)
    exact sq_scaled (Rat.le_of_lt U0) (by grind) (Rat.le_of_lt E0) (by grind) (by grind) (by grind) er.1 er.2) m (Nat.le_refl _)
  generalize hT : val A * val A * sumSq y m = T at *
  generalize hXX : sumSq (unitF y m) m = X at *
  have T2 : T ≤ 2 := by grind
  have T1 : 3 / 4 ≤ T := by grind
  have uT := Rat.mul_le_mul_of_nonneg_left T2 (Rat.le_of_lt U0)
  have ds := dot_small (x := unitF y m) (m := m) (by omega) (fun i hi => by
    obtain ⟨f, h1, h2⟩ := hxb i hi
    refine ⟨f, ?_, ?_⟩ <;> rw [h48] at h1 h2 <;> grind) m (Nat.le_refl _)
  have hn' : ∀ i, i < m → isN ((unitF y m).getD i 0) = false := by
    intro i hi
    cases h : isN ((unitF y m).getD i 0)
    · rfl
    · exact absurd (hxb i hi).1 (not_fin_nan h)
  obtain ⟨_, k2, k3, _⟩ := dot_err (y := unitF y m) (by omega) hn' m (Nat.le_refl _) ds.1
  rw [hXX] at k2 k3
  have X2 : X ≤ 2 := by grind
  have X1 : 1 / 2 ≤ X := by grind
  refine ⟨hxb, ?_, X1⟩
  have eX : (2 * ((m : Rat) + 1) * p2 (-53)) * X ≤ (2 * ((m : Rat) + 1) * p2 (-53)) * 2 := Rat.mul_le_mul_of_nonneg_left X2 (by grind)
  have d1 : val (dotF (unitF y m) (unitF y m) m) - 1 ≤ (8 * (m : Rat) + 37) * p2 (-53) := by grind
  have d2 : 1 - val (dotF (unitF y m) (unitF y m) m) ≤ (8 * (m : Rat) + 37) * p2 (-53) := by grind
  -- the comparison
  have b8 : (8 * (m : Rat) + 37) * p2 (-53) ≤ 1 := by grind
  obtain ⟨fs, rs⟩ := (pf_sub ds.1 fin_one).small (by rw [val_one]; grind) (by rw [val_one]; grind)
  rw [val_one] at rs
  have es := rs.err (b := (8 * (m : Rat) + 37) * p2 (-53)) d1 (by grind)
  obtain ⟨fz, hz⟩ := zabs_fin fs (pf_lt _ _ _)
  obtain ⟨fi, vi⟩ := ofInt_val ((m : Int) + 8) (by omega) (by omega)
  have vi' : val (floatOfInt .f64 ((m : Int) + 8)) = (m : Rat) + 8 := by
    show val (FloatKind.nearest .f64 ((m : Int) + 8)) = _
    rw [vi, Rat.intCast_add]; rfl
  have fi' : Fl.Fin (floatOfInt .f64 ((m : Int) + 8)) := fi
  have ce := eps15_ge
  have cf1 : val 4382569440205035030 * ((m : Rat) + 8) ≤ 65544 := by
    have := Rat.mul_le_mul_of_nonneg_right ce.2 (show 0 ≤ (m : Rat) + 8 by grind); grind
  have cf0 : 9 * p2 (-53) * ((m : Rat) + 8) ≤ val 4382569440205035030 * ((m : Rat) + 8) := Rat.mul_le_mul_of_nonneg_right ce.1 (by grind)
  have hbig2 : (65544 : Rat) ≤ p2 1000 := by
    have : p2 17 = 131072 := by rw [show (17 : Int) = ((17 : Nat) : Int) from rfl, p2_nat]; rfl
    have := p2_mono (show (17 : Int) ≤ 1000 by omega)
    grind
  obtain ⟨fr, rr⟩ := (pf_mul fin_eps15 fi').small (by rw [vi']; grind) (by rw [vi']; grind)
  rw [vi'] at rr
  have hlo : p2 (-1022) ≤ val 4382569440205035030 * ((m : Rat) + 8) := by
    have := p2_mono (show (-1022 : Int) ≤ -53 by omega)
    grind
  have er := (rr.rel hlo).2
  have fin := unit_end U0 (by grind) (show p2 (-1075) * 4096 ≤ p2 (-53) by grind) M0 MM d1 d2 (s := val (pf .sub (dotF (unitF y m) (unitF y m) m) 4607182418800017408)) (by grind) (by grind) ce.1 rfl er ce.2
  unfold isUnitF
  rw [le_orderF fz fr]
  refine decide_eq_true ?_
  rcases hz with ⟨_, h⟩ | ⟨_, h⟩
  · rw [h]; exact fin.1
  · rw [h]; exact fin.2
end Go.Proofs.Qxb6605993a
