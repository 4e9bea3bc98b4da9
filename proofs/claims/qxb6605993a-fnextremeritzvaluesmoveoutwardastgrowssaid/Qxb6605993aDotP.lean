/- The plain law of dot(x, x): not negative, infinite as soon as a part is; how far it is off. -/
import Derived.Test.Qxb6605993aPf
namespace Go.Proofs.Qxb6605993a
open Ieee Fl

theorem nearest_sgb (s : Bool) (m : Nat) (p : Int) : sgb (double.nearest s m p) = s := by
  unfold Format.nearest
  dsimp only
  split
  · exact word_sgb s (by omega)
  · rw [d_inf]; exact word_sgb s (by omega)

theorem mul_sgb {x y : Nat} (hx : Fl.Fin x) (hy : Fl.Fin y) : sgb (pf .mul x y) = (sgb x ^^ sgb y) := by
  have key : pf .mul x y = (double.mul x y).getD NAN := rfl
  rw [key]
  obtain ⟨m, i, e1, _, _⟩ := read_fin hx
  obtain ⟨n, j, e2, _, _⟩ := read_fin hy
  unfold Format.mul
  rw [e1, e2]
  exact nearest_sgb _ _ _

theorem add_sgb {x y : Nat} (hx : Fl.Fin x) (hy : Fl.Fin y) (sx : sgb x = false) (sy : sgb y = false) : sgb (pf .add x y) = false := by
  have key : pf .add x y = (double.add x y).getD NAN := rfl
  rw [key]
  obtain ⟨m, i, e1, _, _⟩ := read_fin hx
  obtain ⟨n, j, e2, _, _⟩ := read_fin hy
  unfold Format.add
  rw [e1, e2, sx, sy]
  show sgb (double.nearest _ _ _) = false
  rw [nearest_sgb]
  have e1 : signed false m (i - min i j).toNat = ((m <<< (i - min i j).toNat : Nat) : Int) := rfl
  have e2 : signed false n (j - min i j).toNat = ((n <<< (j - min i j).toNat : Nat) : Int) := rfl
  rw [e1, e2]
  generalize m <<< (i - min i j).toNat = a
  generalize n <<< (j - min i j).toNat = b
  split
  · rfl
  · exact decide_eq_false (by omega)

theorem sum_fi (s : Bool) (m : Nat) (i : Int) : (Datum.number s m i).sum (.infinity false) = some (.infinity false) := rfl
theorem sum_if (s : Bool) (m : Nat) (i : Int) : (Datum.infinity false).sum (.number s m i) = some (.infinity false) := rfl
theorem sum_ii : (Datum.infinity false).sum (.infinity false) = some (.infinity false) := rfl
theorem prod_ii (s : Bool) : (Datum.infinity s).product (.infinity s) = some (.infinity (s ^^ s)) := rfl

theorem sq_nonneg {y : Nat} (h : isN y = false) : NonNeg (pf .mul y y) ∧ (isInf y → pf .mul y y = INFW) ∧ (Fl.Fin (pf .mul y y) → Fl.Fin y ∧ RN (val y * val y) (val (pf .mul y y))) := by
  rcases word_cases y with hy | hy | hy
  · have hr := pf_mul hy hy
    have hs := mul_sgb hy hy
    rw [Bool.xor_self] at hs
    refine ⟨?_, fun hi => absurd hy (not_fin_inf hi), ?_⟩
    · rcases hr.cases with ⟨h1, _⟩ | ⟨h1, _⟩ | ⟨h1, _⟩
      · exact Or.inl ⟨h1, hs⟩
      · exact Or.inr h1
      · rw [h1] at hs; exact absurd hs (by decide)
    · intro hf
      refine ⟨hy, ?_⟩
      rcases hr.cases with ⟨_, h2⟩ | ⟨h1, _⟩ | ⟨h1, _⟩
      · exact h2
      · rw [h1] at hf; exact absurd hf (not_fin_inf inf_INFW)
      · rw [h1] at hf; exact absurd hf (not_fin_inf rfl)
  · have e : pf .mul y y = INFW := by
      have key : pf .mul y y = (double.mul y y).getD NAN := rfl
      rw [key]
      unfold Format.mul
      rw [read_inf hy, prod_ii, Option.map_some, Option.getD_some, Bool.xor_self, write_INFW]
    refine ⟨Or.inr e, fun _ => e, fun hf => ?_⟩
    rw [e] at hf; exact absurd hf (not_fin_inf inf_INFW)
  · rw [h] at hy; cases hy

theorem add_nonneg {x y : Nat} (hx : NonNeg x) (hy : NonNeg y) : NonNeg (pf .add x y) ∧ (x = INFW ∨ y = INFW → pf .add x y = INFW) ∧
    (Fl.Fin (pf .add x y) → Fl.Fin x ∧ Fl.Fin y ∧ RN (val x + val y) (val (pf .add x y))) := by
  have key : pf .add x y = (double.add x y).getD NAN := rfl
  rcases hx with ⟨fx, sx⟩ | rfl
  · rcases hy with ⟨fy, sy⟩ | rfl
    · have hr := pf_add fx fy
      have hs := add_sgb fx fy sx sy
      refine ⟨?_, ?_, ?_⟩
      · rcases hr.cases with ⟨h1, _⟩ | ⟨h1, _⟩ | ⟨h1, _⟩
        · exact Or.inl ⟨h1, hs⟩
        · exact Or.inr h1
        · rw [h1] at hs; exact absurd hs (by decide)
      · rintro (h | h)
        · rw [h] at fx; exact absurd fx (not_fin_inf inf_INFW)
        · rw [h] at fy; exact absurd fy (not_fin_inf inf_INFW)
      · intro hf
        refine ⟨fx, fy, ?_⟩
        rcases hr.cases with ⟨_, h2⟩ | ⟨h1, _⟩ | ⟨h1, _⟩
        · exact h2
        · rw [h1] at hf; exact absurd hf (not_fin_inf inf_INFW)
        · rw [h1] at hf; exact absurd hf (not_fin_inf rfl)
    · have e : pf .add x INFW = INFW := by
        rw [key]
        obtain ⟨m, i, e1, _, _⟩ := read_fin fx
        unfold Format.add
        rw [e1, read_inf inf_INFW, sgb_INFW, sum_fi]
        rw [Option.map_some, Option.getD_some, write_INFW]
      refine ⟨Or.inr e, fun _ => e, fun hf => ?_⟩
      rw [e] at hf; exact absurd hf (not_fin_inf inf_INFW)
  · have e : pf .add INFW y = INFW := by
      rw [key]
      rcases hy with ⟨fy, sy⟩ | rfl
      · obtain ⟨m, i, e1, _, _⟩ := read_fin fy
        unfold Format.add
        rw [e1, read_inf inf_INFW, sgb_INFW, sum_if]
        rw [Option.map_some, Option.getD_some, write_INFW]
      · unfold Format.add
        rw [read_inf inf_INFW, sgb_INFW, sum_ii]
        rw [Option.map_some, Option.getD_some, write_INFW]
    refine ⟨Or.inr e, fun _ => e, fun hf => ?_⟩
    rw [e] at hf; exact absurd hf (not_fin_inf inf_INFW)

theorem sqr_nonneg (v : Rat) : 0 ≤ v * v := by
  rcases Rat.le_total (a := 0) (b := v) with h | h
  · exact Rat.mul_nonneg h h
  · have := Rat.mul_nonneg (show 0 ≤ -v by grind) (show 0 ≤ -v by grind); grind

/-- the exact sum of squares -/
def sumSq (y : List Nat) : Nat → Rat
  | 0 => 0
  | k + 1 => sumSq y k + val (y.getD k 0) * val (y.getD k 0)
theorem sumSq_nonneg (y : List Nat) (k : Nat) : 0 ≤ sumSq y k := by
  induction k with
  | zero => exact Rat.le_refl
  | succ k ih =>
    unfold sumSq
    have := sqr_nonneg (val (y.getD k 0))
    grind

theorem sumSq_ge {y : List Nat} {k i : Nat} (hi : i < k) : val (y.getD i 0) * val (y.getD i 0) ≤ sumSq y k := by
  induction k with
  | zero => omega
  | succ k ih =>
    unfold sumSq
    have h1 := sqr_nonneg (val (y.getD k 0))
    by_cases e : i = k
    · subst e; have := sumSq_nonneg y i; grind
    · have := ih (by omega); grind

theorem nonneg_zero : NonNeg 0 := Or.inl ⟨by unfold Fl.Fin rung; omega, rfl⟩
theorem fin_zero : Fl.Fin 0 := by unfold Fl.Fin rung; omega
theorem val_zero : val 0 = 0 := by
  unfold val
  rw [show sgb 0 = false from rfl, sv_false, show rung 0 = 0 from rfl, mv_zero]

theorem dot_nonneg {y : List Nat} {m : Nat} (hn : ∀ i, i < m → isN (y.getD i 0) = false) (k : Nat) (hk : k ≤ m) : NonNeg (dotF y y k) ∧ ((∃ i, i < k ∧ isInf (y.getD i 0)) → dotF y y k = INFW) := by
  induction k with
  | zero => exact ⟨nonneg_zero, fun ⟨i, hi, _⟩ => by omega⟩
  | succ k ih =>
    obtain ⟨h1, h2⟩ := ih (by omega)
    have hs := sq_nonneg (hn k (by omega))
    have ha := add_nonneg h1 hs.1
    refine ⟨ha.1, fun ⟨i, hi, hinf⟩ => ?_⟩
    by_cases e : i = k
    · subst e; exact ha.2.1 (Or.inr (hs.2.1 hinf))
    · exact ha.2.1 (Or.inl (h2 ⟨i, by omega, hinf⟩))

/-- what the rounding of one more square does -/
theorem dot_round {D S p v s u e h eta : Rat} (hu : 0 ≤ u) (hu1 : u ≤ 1) (heu : u ≤ e) (he1 : e ≤ 1) (heta : 0 ≤ eta) (hS : 0 ≤ S) (hv : 0 ≤ v)
    (hhu : h * u ≤ eta) (d1 : D ≤ S + e * S + h) (d2 : S ≤ D + e * S + h)
    (p1 : p ≤ v + (u * v + eta)) (p2 : v ≤ p + (u * v + eta))
    (s1 : s ≤ D + p + (u * (D + p) + eta)) (s2 : D + p ≤ s + (u * (D + p) + eta)) :
    s ≤ S + v + (e + 2 * u) * (S + v) + (h + 4 * eta) ∧ S + v ≤ s + (e + 2 * u) * (S + v) + (h + 4 * eta) := by
  have a1 := Rat.mul_nonneg hu hS
  have a2 := Rat.mul_nonneg hu hv
  have b1 : 0 ≤ (1 - e) * (u * S) := Rat.mul_nonneg (by grind) a1
  have b2 : 0 ≤ (e - u) * v := Rat.mul_nonneg (by grind) hv
  have b3 : 0 ≤ (1 - u) * (u * v) := Rat.mul_nonneg (by grind) a2
  have b4 : 0 ≤ (1 - u) * eta := Rat.mul_nonneg (by grind) heta
  have c1 := Rat.mul_le_mul_of_nonneg_left d1 hu
  have c2 := Rat.mul_le_mul_of_nonneg_left p1 hu
  grind

/-- how far dot(y, y) is off -/
theorem dot_err {y : List Nat} {m : Nat} (hm : m ≤ 1048576) (hn : ∀ i, i < m → isN (y.getD i 0) = false) (k : Nat) (hk : k ≤ m) (hf : Fl.Fin (dotF y y k)) :
    (∀ i, i < k → Fl.Fin (y.getD i 0)) ∧
    val (dotF y y k) ≤ sumSq y k + (2 * ((k : Rat) + 1) * p2 (-53)) * sumSq y k + 4 * (k : Rat) * p2 (-1075) ∧
    sumSq y k ≤ val (dotF y y k) + (2 * ((k : Rat) + 1) * p2 (-53)) * sumSq y k + 4 * (k : Rat) * p2 (-1075) ∧
    (∀ i, i < k → Fl.Fin (pf .mul (y.getD i 0) (y.getD i 0)) ∧ val (pf .mul (y.getD i 0) (y.getD i 0)) ≤ val (dotF y y k)) := by
  induction k with
  | zero =>
    refine ⟨fun i hi => by omega, ?_, ?_, fun i hi => by omega⟩
    · show val 0 ≤ 0 + _ * 0 + 4 * ((0 : Nat) : Rat) * _
      rw [val_zero, show ((0 : Nat) : Rat) = 0 from rfl]; grind
    · show (0 : Rat) ≤ val 0 + _ * 0 + 4 * ((0 : Nat) : Rat) * _
      rw [val_zero, show ((0 : Nat) : Rat) = 0 from rfl]; grind
  | succ k ih =>
    have hD := (dot_nonneg hn k (by omega)).1
    have hs := sq_nonneg (hn k (by omega))
    have ha := add_nonneg hD hs.1
    have hfe : dotF y y (k + 1) = pf .add (dotF y y k) (pf .mul (y.getD k 0) (y.getD k 0)) := rfl
    rw [hfe] at hf ⊢
    obtain ⟨fD, fp, hr⟩ := ha.2.2 hf
    obtain ⟨fy, hp⟩ := hs.2.2 fp
    obtain ⟨i1, i2, i3, i4⟩ := ih (by omega) fD
    have sD : sgb (dotF y y k) = false := by
      rcases hD with ⟨_, h⟩ | h
      · exact h
      · rw [h] at fD; exact absurd fD (not_fin_inf inf_INFW)
    have sp : sgb (pf .mul (y.getD k 0) (y.getD k 0)) = false := by
      rcases hs.1 with ⟨_, h⟩ | h
      · exact h
      · rw [h] at fp; exact absurd fp (not_fin_inf inf_INFW)
    have D0 := val_nonneg sD
    have p0 := val_nonneg sp
    have v0 := sqr_nonneg (val (y.getD k 0))
    have S0 := sumSq_nonneg y k
    have pe := hp.err (b := val (y.getD k 0) * val (y.getD k 0)) Rat.le_refl (by grind)
    have se := hr.err (b := val (dotF y y k) + val (pf .mul (y.getD k 0) (y.getD k 0))) Rat.le_refl (by grind)
    have kb : (k : Rat) ≤ 1048576 := Rat.natCast_le_natCast.2 (show k ≤ 1048576 by omega)
    have k0 : (0 : Rat) ≤ (k : Rat) := Rat.natCast_le_natCast.2 (Nat.zero_le k)
    have u1 := p2_m53
    have u0 := p2_pos (-53)
    have t0 := p2_pos (-1075)
    have ku := Rat.mul_le_mul_of_nonneg_left kb (Rat.le_of_lt u0)
    have ku0 := Rat.mul_nonneg (Rat.le_of_lt u0) k0
    have kt : 4 * (k : Rat) * p2 (-1075) * p2 (-53) ≤ p2 (-1075) := by
      have h1 : (4 * (k : Rat) * p2 (-53)) ≤ 1 := by grind
      have := Rat.mul_le_mul_of_nonneg_left h1 (Rat.le_of_lt t0)
      grind
    have ek : ((k + 1 : Nat) : Rat) = (k : Rat) + 1 := by rw [Rat.natCast_add]; rfl
    have R := dot_round (D := val (dotF y y k)) (S := sumSq y k) (p := val (pf .mul (y.getD k 0) (y.getD k 0))) (v := val (y.getD k 0) * val (y.getD k 0))
      (s := val (pf .add (dotF y y k) (pf .mul (y.getD k 0) (y.getD k 0)))) (u := p2 (-53)) (e := 2 * ((k : Rat) + 1) * p2 (-53)) (h := 4 * (k : Rat) * p2 (-1075)) (eta := p2 (-1075))
      (Rat.le_of_lt u0) (by grind) (by grind) (by grind) (Rat.le_of_lt t0) S0 v0 kt i2 i3 pe.1 pe.2 se.1 se.2
    have eS : sumSq y (k + 1) = sumSq y k + val (y.getD k 0) * val (y.getD k 0) := rfl
    refine ⟨?_, ?_, ?_, ?_⟩
    · intro i hi
      by_cases e : i = k
      · subst e; exact fy
      · exact i1 i (by omega)
    · rw [eS, ek]; grind
    · rw [eS, ek]; grind
    · intro i hi
      by_cases e : i = k
      · subst e
        exact ⟨fp, (rn_val _).mono hr (by grind)⟩
      · obtain ⟨j1, j2⟩ := i4 i (by omega)
        exact ⟨j1, (rn_val _).mono hr (by grind)⟩

end Go.Proofs.Qxb6605993a
