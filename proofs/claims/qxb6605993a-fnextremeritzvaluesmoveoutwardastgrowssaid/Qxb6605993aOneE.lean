/- One row: the eigenvector is 1 or -1, nearly; and the plain law of one row. -/
import Derived.Test.Qxb6605993aOne
import Derived.Test.Qxb6605993aL4P
namespace Go.Proofs.Qxb6605993a
open Ieee Fl

section
variable {al be : List Nat} {th : Nat}

/-- the pivot, not too small -/
theorem dV_far (H : Inp al be th 1) (hg : val (al.getD 0 0) = val th ∨ AbsGe (val (al.getD 0 0) - val th) (p2 (-360))) :
    (p2 (-361) ≤ dV al th 0 ∨ dV al th 0 ≤ -p2 (-361)) ∧ dV al th 0 ≤ p2 28 ∧ -p2 28 ≤ dV al th 0 := by
  have s := sub_bd H (show 0 < 1 by omega)
  have tb := tiny_bd H
  have tf := tiny_facts H.th (by omega) (by omega)
  have r : RN (val (al.getD 0 0) - val th) (val (pf .sub (al.getD 0 0) th)) := by
    have n24 := nums.1
    have n26 : p2 26 = 67108864 := by rw [show (26 : Int) = ((26 : Nat) : Int) from rfl, p2_nat]; rfl
    have n27 : p2 27 = 134217728 := by rw [show (27 : Int) = ((27 : Nat) : Int) from rfl, p2_nat]; rfl
    exact ((H.al 0 (by omega)).sub H.th (k := 27) (by omega) (by omega) (by rw [n24, n26, n27]; grind)).2
  have l1 := p2_mono (show (-361 : Int) ≤ -52 by omega)
  have l2 := p2_mono (show (-361 : Int) ≤ -360 by omega)
  have l3 := p2_mono (show (27 : Int) ≤ 28 by omega)
  have s2 := s.2
  have tb2 := tb.1.2
  unfold dV
  by_cases h : val (pf .sub (al.getD 0 0) th) = 0
  · rw [if_pos h]
    exact ⟨Or.inl (by grind), tb2.1, tb2.2⟩
  · rw [if_neg h]
    refine ⟨?_, by grind, by grind⟩
    rcases hg with hg | hg
    · exfalso
      rw [hg, show val th - val th = 0 by grind] at r
      exact h (r.eq rn_zero)
    · have := hg.rn r (rn_p2 (-360) (by omega))
      unfold AbsGe at this
      grind

/-- the system of one row -/
theorem solve1e (H : Inp al be th 1) {b : List Nat} (hl : b.length = 1) (hb : Bd (b.getD 0 0) (p2 1)) (hd : p2 (-361) ≤ dV al th 0 ∨ dV al th 0 ≤ -p2 (-361)) :
    Fl.Fin ((solveF al be th 1 b).getD 0 0) ∧ RN (val (b.getD 0 0) / dV al th 0) (val ((solveF al be th 1 b).getD 0 0)) ∧ Bd ((solveF al be th 1 b).getD 0 0) (p2 362) := by
  have hb' : ∀ j, j < 1 → Bd (b.getD j 0) (p2 1) := by
    intro j hj
    obtain rfl : j = 0 := by omega
    exact hb
  obtain ⟨f0, fb, _⟩ := fac_diag H (by omega) (fun j hj => by omega) hl hb' 0 (by omega)
  rw [solve_row hl 0 (by omega)]
  generalize (facU0 al be th 1 b).getD 0 0 = u0 at *
  generalize (facU1 al be th 1 b).getD 0 0 = u1 at *
  generalize (facU2 al be th 1 b).getD 0 0 = u2 at *
  generalize (facB al be th 1 b).getD 0 0 = bb at *
  unfold backv
  rw [if_neg (by omega), if_neg (by omega)]
  have hq := pf_quo fb.1 f0.1 (by rw [f0.2]; exact dV_ne H 0)
  rw [fb.2, f0.2] at hq
  have e : p2 (-361) * p2 362 = p2 1 := by rw [← p2_add]; rfl
  have hbi := hb.2
  have := quo_bd (B := p2 362) (p2_pos (-361)) hd (x := val (b.getD 0 0)) (by rw [e]; grind) (by rw [e]; grind) (Rat.le_of_lt (p2_pos _))
  obtain ⟨bd, rn⟩ := bd_of hq (k := 362) (by omega) (by omega) this.1 this.2
  exact ⟨bd.1, rn, bd⟩

/-- one step of inverse iteration -/
theorem step1e (H : Inp al be th 1) (hg : val (al.getD 0 0) = val th ∨ AbsGe (val (al.getD 0 0) - val th) (p2 (-360))) {b : List Nat} (hl : b.length = 1) (hb : Bd (b.getD 0 0) (p2 1)) (hr : AbsGe (val (b.getD 0 0)) (p2 (-60))) :
    Fl.Fin ((stepF al be th 1 b).getD 0 0) ∧ (val ((stepF al be th 1 b).getD 0 0) ≤ 1 + p2 (-48) ∧ -(1 + p2 (-48)) ≤ val ((stepF al be th 1 b).getD 0 0)) ∧
    isUnitF (stepF al be th 1 b) 1 = true ∧ 1 / 2 ≤ val ((stepF al be th 1 b).getD 0 0) * val ((stepF al be th 1 b).getD 0 0) := by
  obtain ⟨d1, d2, d3⟩ := dV_far H hg
  obtain ⟨fy, ry, by'⟩ := solve1e H hl hb d1
  have ly : (solveF al be th 1 b).length = 1 := by rw [solveF_length]; exact hl
  -- not too small
  have yg : AbsGe (val ((solveF al be th 1 b).getD 0 0)) (p2 (-88)) := by
    have e : p2 (-60) = p2 (-88) * p2 28 := by rw [← p2_add]; rfl
    rw [e] at hr
    have p0 := p2_pos (-361)
    have q : AbsGe (val (b.getD 0 0) / dV al th 0) (p2 (-88)) := by
      rcases d1 with h | h
      · exact hr.quo (by grind) d2 (Rat.le_of_lt (p2_pos _))
      · have hr' : AbsGe (-val (b.getD 0 0)) (p2 (-88) * p2 28) := by unfold AbsGe at *; grind
        have := hr'.quo (d := -dV al th 0) (by grind) (by grind) (Rat.le_of_lt (p2_pos _))
        have e2 : -val (b.getD 0 0) / -dV al th 0 = val (b.getD 0 0) / dV al th 0 := by
          have h0 : dV al th 0 ≠ 0 := by grind
          have e3 : val (b.getD 0 0) / dV al th 0 * dV al th 0 = val (b.getD 0 0) := Rat.div_mul_cancel h0
          have e4 : -val (b.getD 0 0) / -dV al th 0 * -dV al th 0 = -val (b.getD 0 0) := Rat.div_mul_cancel (by grind)
          have e5 : (-val (b.getD 0 0) / -dV al th 0 - val (b.getD 0 0) / dV al th 0) * dV al th 0 = 0 := by grind
          rcases Rat.mul_eq_zero.1 e5 with h | h
          · grind
          · exact absurd h h0
        rw [e2] at this
        exact this
    exact q.rn ry (rn_p2 (-88) (by omega))
  have hn : ∀ i, i < 1 → isN ((solveF al be th 1 b).getD i 0) = false := by
    intro i hi
    obtain rfl : i = 0 := by omega
    exact not_nan_of_bd by'
  have hsum : sumSq (solveF al be th 1 b) 1 = val ((solveF al be th 1 b).getD 0 0) * val ((solveF al be th 1 b).getD 0 0) := by
    show (0 : Rat) + _ = _
    grind
  have hbig : p2 (-400) ≤ sumSq (solveF al be th 1 b) 1 := by
    rw [hsum]
    have h1 := yg.sq (Rat.le_of_lt (p2_pos _))
    have h2 : p2 (-88) * p2 (-88) = p2 (-176) := by rw [← p2_add]; rfl
    have h3 := p2_mono (show (-400 : Int) ≤ -176 by omega)
    grind
  have hf : Fl.Fin (dotF (solveF al be th 1 b) (solveF al be th 1 b) 1) := by
    show Fl.Fin (pf .add 0 (pf .mul ((solveF al be th 1 b).getD 0 0) ((solveF al be th 1 b).getD 0 0)))
    have h2 : p2 362 * p2 362 = p2 724 := by rw [← p2_add]; rfl
    have := abs_mul_le2 by'.2.1 by'.2.2 by'.2.1 by'.2.2
    rw [h2] at this
    obtain ⟨bm, _⟩ := bd_of (pf_mul fy fy) (k := 724) (by omega) (by omega) this.1 this.2
    have q := pf_add fin_zero bm.1
    rw [val_zero] at q
    have := bm.2
    have l := p2_mono (show (724 : Int) ≤ 1000 by omega)
    exact (q.small (by grind) (by grind)).1
  obtain ⟨s1, s2, s3⟩ := scale_unit ly (by omega) hn hf hbig
  have g := s1 0 (by omega)
  refine ⟨g.1, g.2, s2, ?_⟩
  have : sumSq (unitF (solveF al be th 1 b) 1) 1 = val ((unitF (solveF al be th 1 b) 1).getD 0 0) * val ((unitF (solveF al be th 1 b) 1).getD 0 0) := by
    show (0 : Rat) + _ = _
    grind
  rw [this] at s3
  exact s3

theorem tol9 : pf .mul 4382569440205035030 (floatOfInt .f64 (((1 : Nat) : Int) + 8)) = 4396714064387260633 := by decide +kernel
theorem tol9_val : Fl.Fin 4396714064387260633 ∧ val 4396714064387260633 ≤ 82 * p2 (-53) := by
  have e : 4396714064387260633 = 975 * 4503599627370496 + 5704427701027033 := by omega
  have P := p2_pos (-99)
  have h46 : p2 (-53) = 70368744177664 * p2 (-99) := by
    have : p2 46 = 70368744177664 := by rw [show (46 : Int) = ((46 : Nat) : Int) from rfl, p2_nat]; rfl
    rw [← this, ← p2_add]; rfl
  refine ⟨by rw [e]; exact fin_at _ _ (by omega) (by omega), ?_⟩
  rw [e, val_at 975 _ (Or.inr (by omega)) (by omega) (by omega), h46, show ((975 : Nat) : Int) - 1074 = -99 by rfl, show ((5704427701027033 : Nat) : Rat) = 5704427701027033 from rfl]
  grind

theorem eig1 (H : Inp al be th 1) (hg : val (al.getD 0 0) = val th ∨ AbsGe (val (al.getD 0 0) - val th) (p2 (-360))) :
    Fl.Fin ((eigF al be th 1).getD 0 0) ∧ val (absF ((eigF al be th 1).getD 0 0)) ≤ 1 + 32 * p2 (-53) ∧ 1 - 100 * p2 (-53) ≤ val (absF ((eigF al be th 1).getD 0 0)) := by
  have l60 := p2_mono (show (-60 : Int) ≤ -52 by omega)
  have l61 := p2_mono (show (-60 : Int) ≤ -1 by omega)
  have hh1 : p2 (-1) = 1 / 2 := by
    have : p2 (-1) * p2 1 = 1 := by rw [← p2_add]; exact p2_zero
    rw [p2_53.2.1] at this; grind
  have h48 : p2 (-48) = 32 * p2 (-53) := by
    have : p2 5 = 32 := by rw [show (5 : Int) = ((5 : Nat) : Int) from rfl, p2_nat]; rfl
    rw [← this, ← p2_add]; rfl
  have u0 := p2_pos (-53)
  have p52 := p2_pos (-52)
  obtain ⟨u1, u2, u3, u4, u5⟩ := u_nums
  have r0 : (randTo 1 1).getD 0 0 = randF 1 0 := by rw [randTo_get 1 1 (Nat.le_refl _) 0, if_pos (by omega)]
  have rb := rand_bd 1 0
  have rf := rand_far (m := 1) (by omega) (j := 0) (by omega)
  obtain ⟨a1, a2, a3, a4⟩ := step1e H hg (b := randTo 1 1) (randTo_length 1 1) (by rw [r0]; exact rb.mono (by rw [p2_53.2.1]; grind)) (by rw [r0]; exact rf.mono (by grind))
  have e1 : iterF al be th 1 1 = stepF al be th 1 (randTo 1 1) := rfl
  rw [← e1] at a1 a2 a3 a4
  have half : AbsGe (val ((iterF al be th 1 1).getD 0 0)) (1 / 2) := AbsGe.of_sq (by grind)
  obtain ⟨b1, b2, b3, b4⟩ := step1e H hg (b := iterF al be th 1 1) (iterF_length al be th 1 1) ⟨a1, by rw [p2_53.2.1]; grind, by rw [p2_53.2.1]; grind⟩ (half.mono (by grind))
  have e2 : eigF al be th 1 = stepF al be th 1 (iterF al be th 1 1) := rfl
  rw [← e2] at b1 b2 b3 b4
  generalize eigF al be th 1 = X at *
  have va := abs_val (X.getD 0 0)
  refine ⟨b1, by rw [← h48]; grind, ?_⟩
  -- the length by the law's own measure
  unfold isUnitF at b3
  rw [tol9] at b3
  obtain ⟨ft, vt⟩ := tol9_val
  have vx := b2
  have sq : val (X.getD 0 0) * val (X.getD 0 0) = val (absF (X.getD 0 0)) * val (absF (X.getD 0 0)) := by
    rcases va.2.2.2 with h | h <;> rw [h] <;> grind
  have ax : val (absF (X.getD 0 0)) ≤ 1 + 32 * p2 (-53) := by rw [← h48]; grind
  have sq2 := Rat.mul_le_mul_of_nonneg_left ax va.1
  have sqU : val (absF (X.getD 0 0)) * val (absF (X.getD 0 0)) ≤ 2 := by
    have := Rat.mul_le_mul_of_nonneg_left ax (show 0 ≤ 1 + 32 * p2 (-53) by grind)
    have k := Rat.mul_le_mul_of_nonneg_right ax va.1
    have k2 := Rat.mul_le_mul_of_nonneg_left (show p2 (-53) ≤ 1 / 1000000 by grind) (Rat.le_of_lt u0)
    grind
  have sq0 := Rat.mul_nonneg va.1 va.1
  have big := nums.2.2
  obtain ⟨fm, rm⟩ := (pf_mul b1 b1).small (by rw [sq]; grind) (by rw [sq]; grind)
  have q := pf_add fin_zero fm
  rw [val_zero, show (0 : Rat) + val (pf .mul (X.getD 0 0) (X.getD 0 0)) = val (pf .mul (X.getD 0 0) (X.getD 0 0)) by grind] at q
  rw [sq] at rm
  have em := rm.err (b := 2) (by grind) (by grind)
  obtain ⟨fd, rd⟩ := q.small (by grind) (by grind)
  have ed := rd.eq (rn_val _)
  have ed' : dotF X X 1 = pf .add 0 (pf .mul (X.getD 0 0) (X.getD 0 0)) := rfl
  rw [ed'] at b3
  have q3 := pf_sub fd fin_one
  rw [val_one, ed] at q3
  obtain ⟨fs, rs⟩ := q3.small (by grind) (by grind)
  have z := zabs_val fs (pf_lt _ _ _)
  rw [le_orderF z.1 ft, z.2] at b3
  have b3 := of_decide_eq_true b3
  have za := aV_facts (pf .sub (pf .add 0 (pf .mul (X.getD 0 0) (X.getD 0 0))) 4607182418800017408)
  have es := rs.err (b := 3) (by grind) (by grind)
  -- x^2 >= 1 - 95u, so |x| >= 1 - 95u
  apply Classical.byContradiction
  intro hc
  have hx : val (absF (X.getD 0 0)) < 1 - 100 * p2 (-53) := by grind
  have := Rat.mul_le_mul_of_nonneg_left (show val (absF (X.getD 0 0)) ≤ 1 by grind) va.1
  grind

/-- what the line for one row asks -/
structure Fine5a (al be : List Nat) (hi lo he : Nat) : Prop where
  f1 : Fl.Fin (pf .sub hi (al.getD 0 0))
  f2 : Fl.Fin (pf .sub lo (al.getD 0 0))
  f3 : Fl.Fin (pf .sub (zabsF he) (zabsF (be.getD 0 0)))
  f4 : Fl.Fin (pf .mul 4427486594234968593 (zabsF (be.getD 0 0)))
  c1 : leF (zabsF (pf .sub hi (al.getD 0 0))) (slF al be 1) = true
  c2 : leF (zabsF (pf .sub lo (al.getD 0 0))) (slF al be 1) = true
  c3 : leF (zabsF (pf .sub (zabsF he) (zabsF (be.getD 0 0)))) (pf .mul 4427486594234968593 (zabsF (be.getD 0 0))) = true

/-- b times nearly 1, rounded, is nearly b -/
theorem near_b {B X v c : Rat} {b z : Nat} (hB : B = aV b) (hv : v = aV z) (fb : Fl.Fin b) (fz : Fl.Fin z) (hr : RN (B * X) v) (x1 : X ≤ 1 + 32 * p2 (-53)) (x2 : 1 - 100 * p2 (-53) ≤ X) (hc : 9007 * p2 (-53) ≤ c) : v - B ≤ c * B ∧ -(v - B) ≤ c * B := by
  have u0 := p2_pos (-53)
  obtain ⟨u1, u2, u3, u4, u5⟩ := u_nums
  have B0 : 0 ≤ B := by rw [hB]; exact (aV_facts b).1
  have k1 := Rat.mul_le_mul_of_nonneg_left x1 B0
  have k2 := Rat.mul_le_mul_of_nonneg_left x2 B0
  have uB := Rat.mul_nonneg (Rat.le_of_lt u0) B0
  have e1 : B * (1 + 32 * p2 (-53)) = B + 32 * (p2 (-53) * B) := by grind
  have e2 : B * (1 - 100 * p2 (-53)) = B - 100 * (p2 (-53) * B) := by grind
  rw [e1] at k1
  rw [e2] at k2
  have uB2 := Rat.mul_le_mul_of_nonneg_right (show p2 (-53) ≤ 1 / 1000000 by grind) B0
  have e := hr.err (b := 2 * B) (by grind) (by grind)
  rw [show p2 (-53) * (2 * B) = 2 * (p2 (-53) * B) by grind] at e
  have cB := Rat.mul_le_mul_of_nonneg_right hc B0
  rw [show 9007 * p2 (-53) * B = 9007 * (p2 (-53) * B) by grind] at cB
  by_cases h : p2 (-1031) ≤ B
  · have h9 : p2 (-1075) = p2 (-44) * p2 (-1031) := by rw [← p2_add]; rfl
    have h44 : p2 (-44) = 512 * p2 (-53) := by
      have : p2 9 = 512 := by rw [show (9 : Int) = ((9 : Nat) : Int) from rfl, p2_nat]; rfl
      rw [← this, ← p2_add]; rfl
    have k := Rat.mul_le_mul_of_nonneg_left h (Rat.le_of_lt (p2_pos (-44)))
    rw [← h9, h44, Rat.mul_assoc] at k
    constructor <;> grind
  · have h' : B < p2 (-1031) := by grind
    obtain ⟨n, hn⟩ := unit_int (fin_absF fb)
    obtain ⟨k, hk⟩ := unit_int (fin_absF fz)
    have hn' : B = (n : Rat) * p2 (-1074) := by rw [hB]; exact hn
    have hk' : v = (k : Rat) * p2 (-1074) := by rw [hv]; exact hk
    have w0 := p2_pos (-1075)
    have w1 : p2 (-1074) = 2 * p2 (-1075) := by have := p2_half (-1075); rwa [show (-1075 + 1 : Int) = -1074 by rfl] at this
    have s := Rat.mul_le_mul_of_nonneg_left (Rat.le_of_lt h') (Rat.le_of_lt u0)
    have s2 : 512 * (p2 (-53) * p2 (-1031)) = p2 (-1075) := by
      have : p2 9 = 512 := by rw [show (9 : Int) = ((9 : Nat) : Int) from rfl, p2_nat]; rfl
      rw [← this, ← p2_add, ← p2_add]; rfl
    have : v = B := by
      rw [hn', hk']
      by_cases hnk : k = n
      · rw [hnk]
      · exfalso
        have := int_far (p2_pos (-1074)) hnk
        rw [← hn', ← hk'] at this
        unfold AbsGe at this
        grind
    rw [this]
    constructor <;> grind

theorem fine5a (H : InpB al be 1) (a64 : W64 al) (o64 : W64 be) (hb : Bd (be.getD 0 0) (p2 24)) {hi lo he le : Nat} (R : Ritz al be 1 hi lo he le) : Fine5a al be hi lo he := by
  have Hh := high_of H R.ahi
  have Hl := low_of H R.alo
  obtain ⟨_, fs, s1, s2, _⟩ := slack_facts H a64 o64
  have um := UM_facts H
  have A := H.al 0 (by omega)
  have n26 : p2 26 = 67108864 := by rw [show (26 : Int) = ((26 : Nat) : Int) from rfl, p2_nat]; rfl
  have bh := Hh.bd.2
  have bl := Hl.bd.2
  have A2 := A.2
  rw [n26] at bh bl
  rw [nums.1] at A2
  have big := nums.2.2
  have d1 := Hh.diag H (show 0 < 1 by omega)
  have d2 := Hl.diag H (show 0 < 1 by omega)
  obtain ⟨i, i1, i2⟩ := Hh.disc H
  obtain ⟨k, k1, k2⟩ := Hl.disc H
  obtain rfl : i = 0 := by omega
  obtain rfl : k = 0 := by omega
  have z2 : ro2 be 1 0 = 0 := by unfold ro2; rw [if_neg (by omega)]
  rw [ro_zero, z2] at i2 k2
  obtain ⟨f1, r1⟩ := (pf_sub Hh.bd.1 A.1).small (by grind) (by grind)
  obtain ⟨f2, r2⟩ := (pf_sub Hl.bd.1 A.1).small (by grind) (by grind)
  have m1 := r1.mono (rn_val (slF al be 1)) (by grind)
  have m1' := (rn_val (slF al be 1)).neg.mono r1 (by grind)
  have m2 := r2.mono (rn_val (slF al be 1)) (by grind)
  have m2' := (rn_val (slF al be 1)).neg.mono r2 (by grind)
  have y1 := zabs_val f1 (pf_lt _ _ _)
  have y2 := zabs_val f2 (pf_lt _ _ _)
  have v1 := aV_facts (pf .sub hi (al.getD 0 0))
  have v2 := aV_facts (pf .sub lo (al.getD 0 0))
  -- the error bound
  have G := gap1 H R.ahi Hh.bd.1
  obtain ⟨x0, x1, x2⟩ := eig1 (inp_hi H Hh.bd) G
  have eh : cn he = pf .mul (be.getD 0 0) (absF ((eigF al be hi 1).getD 0 0)) := R.ehi
  generalize (eigF al be hi 1).getD 0 0 = x at *
  have b64 := o64.get 0
  have E : Fine5a al be hi lo he ↔ (Fl.Fin (pf .sub hi (al.getD 0 0)) ∧ Fl.Fin (pf .sub lo (al.getD 0 0)) ∧ Fl.Fin (pf .sub (zabsF he) (zabsF (be.getD 0 0))) ∧ Fl.Fin (pf .mul 4427486594234968593 (zabsF (be.getD 0 0))) ∧ leF (zabsF (pf .sub hi (al.getD 0 0))) (slF al be 1) = true ∧ leF (zabsF (pf .sub lo (al.getD 0 0))) (slF al be 1) = true ∧ leF (zabsF (pf .sub (zabsF he) (zabsF (be.getD 0 0)))) (pf .mul 4427486594234968593 (zabsF (be.getD 0 0))) = true) :=
    ⟨fun h => ⟨h.f1, h.f2, h.f3, h.f4, h.c1, h.c2, h.c3⟩, fun ⟨h1, h2, h3, h4, h5, h6, h7⟩ => ⟨h1, h2, h3, h4, h5, h6, h7⟩⟩
  rw [E]
  clear E
  generalize be.getD 0 0 = b at hb eh b64 ⊢
  have fx := fin_absF x0
  have ax := abs_val x
  have bb := hb.2
  rw [nums.1] at bb
  have u0 := p2_pos (-53)
  obtain ⟨u1, u2, u3, u4, u5⟩ := u_nums
  have P := abs_mul_le2 (u := val b) (v := val (absF x)) bb.1 bb.2 (show val (absF x) ≤ 16777216 by grind) (show -16777216 ≤ val (absF x) by grind)
  obtain ⟨fz, rz⟩ := (pf_mul hb.1 fx).small (by grind) (by grind)
  have ez := word_of_cn eh fz
  have z64 : he < 18446744073709551616 := by rw [ez]; exact pf_lt _ _ _
  rw [← ez] at rz fz
  have yz := zabs_val fz z64
  have yb := zabs_val hb.1 b64
  have vb := aV_facts b
  have vz := aV_facts he
  have hr : RN (aV b * val (absF x)) (aV he) := by
    rcases Rat.le_total (a := 0) (b := val b) with h | h
    · have e : aV b = val b := by grind
      have n := rz.nonneg (Rat.mul_nonneg h ax.1)
      rw [e, show aV he = val he by grind]; exact rz
    · have e : aV b = - val b := by grind
      have n : val he ≤ 0 := rz.nonpos (by
        have := Rat.mul_nonneg (show 0 ≤ -val b by grind) ax.1
        grind)
      rw [e, show aV he = -val he by grind, show -val b * val (absF x) = -(val b * val (absF x)) by grind]; exact rz.neg
  obtain ⟨fc, c1, c2⟩ := val_e12
  obtain ⟨n1, n2⟩ := near_b rfl rfl hb.1 fz hr x1 x2 c1
  have q4 := pf_mul fc yb.1
  have q3 := pf_sub yz.1 yb.1
  rw [yb.2] at q4
  rw [yz.2, yb.2] at q3
  have ub := aV_le hb
  rw [nums.1] at ub
  have cB := Rat.mul_le_mul_of_nonneg_right (show val 4427486594234968593 ≤ 1 by grind) vb.1
  have cB0 := Rat.mul_nonneg (show 0 ≤ val 4427486594234968593 by grind) vb.1
  obtain ⟨f4, r4⟩ := q4.small (by grind) (by grind)
  obtain ⟨f3, r3⟩ := q3.small (by grind) (by grind)
  have m3 := r3.mono r4 n1
  have m3' := r3.neg.mono r4 n2
  have y3 := zabs_val f3 (pf_lt _ _ _)
  have v3 := aV_facts (pf .sub (zabsF he) (zabsF b))
  refine ⟨f1, f2, f3, f4, ?_, ?_, ?_⟩
  · rw [le_orderF y1.1 fs, y1.2]
    exact decide_eq_true (by grind)
  · rw [le_orderF y2.1 fs, y2.2]
    exact decide_eq_true (by grind)
  · rw [le_orderF y3.1 f4, y3.2]
    exact decide_eq_true (by grind)
end
end Go.Proofs.Qxb6605993a
