/- What scaling to length one yields, case by case. -/
import Derived.Test.Qxb6605993aSolveR
namespace Go.Proofs.Qxb6605993a
open Ieee Fl

theorem read_zero {x : Nat} (h : Fl.Fin x) (h0 : val x = 0) : ∃ i, double.read x = .number (sgb x) 0 i := by
  obtain ⟨m, i, e, v, _⟩ := read_fin h
  have hz : mv (rung x) = 0 := by
    unfold val at h0
    cases hs : sgb x
    · rw [hs, sv_false] at h0; exact h0
    · rw [hs, sv_true] at h0; grind
  rw [hz] at v
  have p := p2_pos i
  have : m = 0 := by
    rcases Nat.eq_zero_or_pos m with h | h
    · exact h
    · have h1 : (1 : Rat) ≤ (m : Rat) := Rat.natCast_le_natCast.2 h
      have := Rat.mul_le_mul_of_nonneg_right h1 (Rat.le_of_lt p)
      grind
  subst this
  exact ⟨i, e⟩

theorem write_zero (s : Bool) (i : Int) : Fl.Fin (double.write (.number s 0 i)) ∧ val (double.write (.number s 0 i)) = 0 := by
  have h := write_number s 0 i
  have e : sv s (((0 : Nat) : Rat) * p2 i) = 0 := by
    rw [show ((0 : Nat) : Rat) = 0 from rfl, Rat.zero_mul]
    cases s
    · rw [sv_false]
    · rw [sv_true]; grind
  rw [e] at h
  have p := p2_pos 1000
  obtain ⟨f, r⟩ := h.small (by grind) (by grind)
  exact ⟨f, r.eq rn_zero⟩

theorem mul_zero_inf {x y : Nat} (hx : Fl.Fin x) (h0 : val x = 0) (hy : isInf y) : pf .mul x y = NAN := by
  have key : pf .mul x y = (double.mul x y).getD NAN := rfl
  obtain ⟨i, e⟩ := read_zero hx h0
  rw [key]
  unfold Format.mul
  rw [e, read_inf hy]
  rfl
theorem mul_inf_zero {x y : Nat} (hx : isInf x) (hy : Fl.Fin y) (h0 : val y = 0) : pf .mul x y = NAN := by
  have key : pf .mul x y = (double.mul x y).getD NAN := rfl
  obtain ⟨i, e⟩ := read_zero hy h0
  rw [key]
  unfold Format.mul
  rw [e, read_inf hx]
  rfl
theorem psq_inf : psq INFW = INFW := by
  unfold psq
  unfold Format.sqrt
  rw [read_inf inf_INFW, sgb_INFW]
  show double.write (.infinity false) = INFW
  exact write_INFW
theorem psq_zero {x : Nat} (hx : Fl.Fin x) (h0 : val x = 0) : Fl.Fin (psq x) ∧ val (psq x) = 0 := by
  obtain ⟨i, e⟩ := read_zero hx h0
  have key : psq x = (double.sqrt x).getD NAN := rfl
  rw [key]
  unfold Format.sqrt
  rw [e]
  exact write_zero _ _
theorem quo_fin_inf {x y : Nat} (hx : Fl.Fin x) (hy : isInf y) : Fl.Fin (pf .quo x y) ∧ val (pf .quo x y) = 0 := by
  have key : pf .quo x y = (double.div x y).getD NAN := rfl
  obtain ⟨m, i, e, _, _⟩ := read_fin hx
  rw [key]
  unfold Format.div
  rw [e, read_inf hy]
  exact write_zero _ _
theorem quo_by_zero {x y : Nat} (hx : Fl.Fin x) (hx0 : val x ≠ 0) (hy : Fl.Fin y) (h0 : val y = 0) : isInf (pf .quo x y) := by
  have key : pf .quo x y = (double.div x y).getD NAN := rfl
  obtain ⟨m, i, e, v, _⟩ := read_fin hx
  obtain ⟨j, e2⟩ := read_zero hy h0
  have hm : m ≠ 0 := by
    intro hm
    subst hm
    apply hx0
    unfold val
    rw [v, show ((0 : Nat) : Rat) = 0 from rfl, Rat.zero_mul]
    cases sgb x
    · rw [sv_false]
    · rw [sv_true]; grind
  rw [key]
  unfold Format.div
  rw [e, e2]
  simp only [Datum.quotient]
  rw [if_pos trivial, if_neg hm]
  exact write_inf _

theorem dot_zero {y : List Nat} {m : Nat} (hz : AllZ y m) (k : Nat) (hk : k ≤ m) : Fl.Fin (dotF y y k) ∧ val (dotF y y k) = 0 := by
  induction k with
  | zero => exact ⟨fin_zero, val_zero⟩
  | succ k ih =>
    obtain ⟨i1, i2⟩ := ih (by omega)
    obtain ⟨z1, z2⟩ := hz k (by omega)
    obtain ⟨p1, p2'⟩ := mul_zero_val' z1 z1 z2
    have h := pf_add i1 p1
    rw [i2, p2', show (0 : Rat) + 0 = 0 by grind] at h
    have p := p2_pos 1000
    obtain ⟨f, r⟩ := h.small (by grind) (by grind)
    exact ⟨f, r.eq rn_zero⟩

/-- scaled to length one -/
structure Good (x : List Nat) (m : Nat) : Prop where
  bd : ∀ i, i < m → Fl.Fin (x.getD i 0) ∧ val (x.getD i 0) ≤ 1 + p2 (-48) ∧ -(1 + p2 (-48)) ≤ val (x.getD i 0)
  unit : isUnitF x m = true
  sum : 1 / 2 ≤ sumSq x m

/-- a vector whose scaling is well understood: some entry that is not small, or none that is not zero -/
def Plain (y : List Nat) (m : Nat) : Prop := (∃ j, j < m ∧ ¬ Bd (y.getD j 0) (p2 (-200))) ∨ AllZ y m

theorem sq_ge {v k : Rat} (hk : 0 ≤ k) (h : ¬ (v ≤ k ∧ -k ≤ v)) : k * k ≤ v * v := by
  by_cases h1 : v ≤ k
  · have h2 : v < -k := by
      apply Classical.byContradiction
      intro h2
      exact h ⟨h1, by grind⟩
    have := Rat.mul_le_mul_of_nonneg_left (show k ≤ -v by grind) hk
    have := Rat.mul_le_mul_of_nonneg_right (show k ≤ -v by grind) (show 0 ≤ -v by grind)
    grind
  · have := Rat.mul_le_mul_of_nonneg_left (show k ≤ v by grind) hk
    have := Rat.mul_le_mul_of_nonneg_right (show k ≤ v by grind) (show 0 ≤ v by grind)
    grind

theorem unit_cases {y : List Nat} {m : Nat} (hl : y.length = m) (hm : 1 ≤ m) (hmx : m ≤ 65536) (hp : Plain y m) :
    HasN (unitF y m) m ∨ AllZ (unitF y m) m ∨ Good (unitF y m) m := by
  have hg : ∀ i, i < m → (unitF y m).getD i 0 = pf .mul (y.getD i 0) (factorF y m) := by
    intro i hi
    unfold unitF
    rw [scaleTo_get y _ m (by omega) i, if_pos hi]
  by_cases hN : HasN y m
  · obtain ⟨j, hj, hn⟩ := hN
    left
    refine ⟨j, hj, ?_⟩
    rw [hg j hj, pf_nan (Or.inl hn)]
    exact isN_NAN
  have hn : ∀ i, i < m → isN (y.getD i 0) = false := by
    intro i hi
    cases h : isN (y.getD i 0)
    · rfl
    · exact absurd ⟨i, hi, h⟩ hN
  obtain ⟨d1, d2⟩ := dot_nonneg hn m (Nat.le_refl _)
  by_cases hI : ∃ i, i < m ∧ isInf (y.getD i 0)
  · have hd := d2 hI
    obtain ⟨j, hj, hj2⟩ := hI
    left
    refine ⟨j, hj, ?_⟩
    have ef : factorF y m = pf .quo 4607182418800017408 INFW := by unfold factorF; rw [hd, psq_inf]
    obtain ⟨q1, q2⟩ := quo_fin_inf fin_one inf_INFW
    rw [hg j hj, ef, mul_inf_zero hj2 q1 q2]
    exact isN_NAN
  have hF : ∀ i, i < m → Fl.Fin (y.getD i 0) := by
    intro i hi
    rcases word_cases (y.getD i 0) with h | h | h
    · exact h
    · exact absurd ⟨i, hi, h⟩ hI
    · exact absurd ⟨i, hi, h⟩ hN
  by_cases hd : Fl.Fin (dotF y y m)
  · rcases hp with ⟨j, hj, hb⟩ | hz
    · right; right
      have hv : ¬ (val (y.getD j 0) ≤ p2 (-200) ∧ -p2 (-200) ≤ val (y.getD j 0)) := fun h => hb ⟨hF j hj, h.1, h.2⟩
      have h1 := sq_ge (Rat.le_of_lt (p2_pos _)) hv
      have h2 := sumSq_ge (y := y) hj
      have e : p2 (-200) * p2 (-200) = p2 (-400) := by rw [← p2_add]; rfl
      rw [e] at h1
      obtain ⟨s1, s2, s3⟩ := scale_unit hl hmx hn hd (Rat.le_trans h1 h2)
      exact ⟨s1, s2, s3⟩
    · left
      obtain ⟨z1, z2⟩ := dot_zero hz m (Nat.le_refl _)
      obtain ⟨r1, r2⟩ := psq_zero z1 z2
      have hi : isInf (factorF y m) := quo_by_zero fin_one (by rw [val_one]; grind) r1 r2
      refine ⟨0, by omega, ?_⟩
      rw [hg 0 (by omega), mul_zero_inf (hz 0 (by omega)).1 (hz 0 (by omega)).2 hi]
      exact isN_NAN
  · right; left
    have hd' : dotF y y m = INFW := by
      rcases d1 with ⟨h, _⟩ | h
      · exact absurd h hd
      · exact h
    have ef : factorF y m = pf .quo 4607182418800017408 INFW := by unfold factorF; rw [hd', psq_inf]
    obtain ⟨q1, q2⟩ := quo_fin_inf fin_one inf_INFW
    intro j hj
    rw [hg j hj, ef]
    exact mul_zero_val' (hF j hj) q1 q2

theorem anyNaN_has {x : List Nat} {m : Nat} (h : HasN x m) : anyNaN x m = true := by
  obtain ⟨j, hj, hn⟩ := h
  refine anyNaN_of hj ?_
  unfold Format.order
  obtain ⟨s, t, e⟩ := read_nan hn
  rw [e]
  rfl
theorem allZero_all {x : List Nat} {m : Nat} (h : AllZ x m) (k : Nat) (hk : k ≤ m) : allZero x k = true := by
  induction k with
  | zero => rfl
  | succ k ih =>
    unfold allZero
    rw [ih (by omega), Bool.true_and]
    obtain ⟨h1, h2⟩ := h k (by omega)
    have := zero_order h1
    rw [h2] at this
    have := this.trans (decide_eq_true rfl)
    unfold zeroF at this
    exact this

/-- one step of inverse iteration -/
theorem step_cases {al of : List Nat} {th m : Nat} {b : List Nat} (H : Inp al of th m) (hm : 1 ≤ m) (hmx : m ≤ 65536) (hl : b.length = m)
    (hb : (∃ j, j < m ∧ ¬ Bd (b.getD j 0) (p2 (-150))) ∨ AllZ b m) :
    HasN (stepF al of th m b) m ∨ AllZ (stepF al of th m b) m ∨ Good (stepF al of th m b) m := by
  show HasN (unitF (solveF al of th m b) m) m ∨ AllZ (unitF (solveF al of th m b) m) m ∨ Good (unitF (solveF al of th m b) m) m
  refine unit_cases (by rw [solveF_length]; exact hl) hm hmx ?_
  rcases hb with ⟨j, hj, hb⟩ | hz
  · left
    apply Classical.byContradiction
    intro hc
    apply hb
    refine solve_small H hm hmx hl (fun i hi => ?_) j hj
    apply Classical.byContradiction
    intro hi2
    exact hc ⟨i, hi, hi2⟩
  · exact Or.inr (solve_allZ H hm hl hz)

theorem sumSq_le {x : List Nat} {K : Rat} (m : Nat) (h : ∀ i, i < m → val (x.getD i 0) ≤ K ∧ -K ≤ val (x.getD i 0)) : sumSq x m ≤ (m : Rat) * (K * K) := by
  induction m with
  | zero => rw [show ((0 : Nat) : Rat) = 0 from rfl, Rat.zero_mul]; exact Rat.le_refl
  | succ m ih =>
    have i := ih (fun i hi => h i (by omega))
    obtain ⟨a, b⟩ := h m (by omega)
    have := (abs_mul_le2 a b a b).1
    have e : ((m + 1 : Nat) : Rat) = (m : Rat) + 1 := by rw [Rat.natCast_add]; rfl
    rw [e]
    show sumSq x m + val (x.getD m 0) * val (x.getD m 0) ≤ _
    grind

/-- a vector of length one is not small -/
theorem good_big {x : List Nat} {m : Nat} (hmx : m ≤ 65536) (h : Good x m) : ∃ j, j < m ∧ ¬ Bd (x.getD j 0) (p2 (-150)) := by
  apply Classical.byContradiction
  intro hc
  have hb : ∀ i, i < m → val (x.getD i 0) ≤ p2 (-150) ∧ -p2 (-150) ≤ val (x.getD i 0) := by
    intro i hi
    apply Classical.byContradiction
    intro hi2
    exact hc ⟨i, hi, fun hb => hi2 hb.2⟩
  have h1 := sumSq_le m hb
  have h2 := h.sum
  have e : p2 (-150) * p2 (-150) = p2 (-300) := by rw [← p2_add]; rfl
  rw [e] at h1
  have mb : (m : Rat) ≤ 65536 := Rat.natCast_le_natCast.2 hmx
  have h3 := Rat.mul_le_mul_of_nonneg_right mb (Rat.le_of_lt (p2_pos (-300)))
  have h4 : 65536 * p2 (-300) ≤ p2 (-284) := by
    have : p2 16 = 65536 := by rw [show (16 : Int) = ((16 : Nat) : Int) from rfl, p2_nat]; rfl
    rw [← this, ← p2_add]; exact p2_mono (by omega)
  have h5 : p2 (-284) ≤ p2 (-2) := p2_mono (by omega)
  have h6 : p2 (-2) * 4 = 1 := by
    have : p2 2 = 4 := by rw [show (2 : Int) = ((2 : Nat) : Int) from rfl, p2_nat]; rfl
    rw [← this, ← p2_add]; exact p2_zero
  grind

/-- a step from whatever a step yields -/
theorem step_again {al of : List Nat} {th m : Nat} {b : List Nat} (H : Inp al of th m) (hm : 1 ≤ m) (hmx : m ≤ 65536) (hl : b.length = m)
    (hb : HasN b m ∨ AllZ b m ∨ Good b m) :
    HasN (stepF al of th m b) m ∨ AllZ (stepF al of th m b) m ∨ Good (stepF al of th m b) m := by
  rcases hb with h | h | h
  · refine step_cases H hm hmx hl (Or.inl ?_)
    obtain ⟨j, hj, hn⟩ := h
    exact ⟨j, hj, fun hb => not_fin_nan hn hb.1⟩
  · exact step_cases H hm hmx hl (Or.inr h)
  · exact step_cases H hm hmx hl (Or.inl (good_big hmx h))
end Go.Proofs.Qxb6605993a
