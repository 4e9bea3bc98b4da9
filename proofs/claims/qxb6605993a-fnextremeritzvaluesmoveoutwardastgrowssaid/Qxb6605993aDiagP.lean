/- The plain law of statement 2: on a diagonal matrix the answer picks its coordinate. -/
import Derived.Test.Qxb6605993aDiag
import Derived.Test.Qxb6605993aDrawsP
namespace Go.Proofs.Qxb6605993a
open Ieee Fl

/-- of magnitude at least r -/
def AbsGe (v r : Rat) : Prop := r ≤ v ∨ r ≤ -v

theorem AbsGe.rn {t v r : Rat} (h : AbsGe t r) (hr : RN t v) (h0 : RN r r) : AbsGe v r := by
  rcases h with h | h
  · exact Or.inl (h0.mono hr h)
  · exact Or.inr (h0.mono hr.neg h)
theorem AbsGe.rel {t v r : Rat} (h : AbsGe t r) (hr : RN t v) (h0 : p2 (-1022) ≤ r) : AbsGe v (r - p2 (-53) * r) := by
  have U := p2_m53
  have U0 := p2_pos (-53)
  have key : ∀ t v : Rat, RN t v → r ≤ t → r - p2 (-53) * r ≤ v := by
    intro t v hr h
    have e := (hr.rel (Rat.le_trans h0 h)).2
    have h3 := Rat.mul_le_mul_of_nonneg_left h (show 0 ≤ 1 - p2 (-53) by grind)
    grind
  rcases h with h | h
  · exact Or.inl (key t v hr h)
  · exact Or.inr (key (-t) (-v) hr.neg h)
theorem AbsGe.mul {v r a : Rat} (h : AbsGe v r) (ha : 0 ≤ a) : AbsGe (v * a) (r * a) := by
  rcases h with h | h
  · exact Or.inl (Rat.mul_le_mul_of_nonneg_right h ha)
  · right
    have := Rat.mul_le_mul_of_nonneg_right h ha
    grind
theorem AbsGe.mono {v r s : Rat} (h : AbsGe v r) (hs : s ≤ r) : AbsGe v s := by
  rcases h with h | h
  · exact Or.inl (Rat.le_trans hs h)
  · exact Or.inr (Rat.le_trans hs h)
/-- divided by a number of at most D -/
theorem AbsGe.quo {x d r D : Rat} (h : AbsGe x (r * D)) (hd : 0 < d) (hD : d ≤ D) (hr : 0 ≤ r) : AbsGe (x / d) r := by
  have hq : x / d * d = x := Rat.div_mul_cancel (by grind)
  generalize x / d = q at *
  have key : ∀ r' : Rat, r' < r → r' * d < r * D := by
    intro r' h'
    have h1 := Rat.mul_lt_mul_of_pos_right h' hd
    have h2 := Rat.mul_le_mul_of_nonneg_left hD hr
    grind
  apply Classical.byContradiction
  intro hc
  unfold AbsGe at hc h
  have c1 : q < r := by grind
  have c2 : -q < r := by grind
  have k1 := key q c1
  have k2 := key (-q) c2
  grind
theorem AbsGe.sq {v r : Rat} (h : AbsGe v r) (hr : 0 ≤ r) : r * r ≤ v * v := by
  rcases h with h | h
  · have h1 := Rat.mul_le_mul_of_nonneg_left h hr
    have h2 := Rat.mul_le_mul_of_nonneg_right h (show 0 ≤ v by grind)
    grind
  · have h1 := Rat.mul_le_mul_of_nonneg_left h hr
    have h2 := Rat.mul_le_mul_of_nonneg_right h (show 0 ≤ -v by grind)
    grind
theorem AbsGe.of_sq {v r : Rat} (h : r * r ≤ v * v) : AbsGe v r := by
  apply Classical.byContradiction
  intro hc
  unfold AbsGe at hc
  have c1 : v < r := by grind
  have c2 : -v < r := by grind
  rcases Rat.le_total (a := 0) (b := v) with h0 | h0
  · have := sq_lt h0 c1; grind
  · have := sq_lt (show 0 ≤ -v by grind) c2; grind

theorem sumSq_but {y : List Nat} {c : Rat} {j : Nat} (m : Nat) (h : ∀ i, i < m → i ≠ j → val (y.getD i 0) ≤ c ∧ -c ≤ val (y.getD i 0)) :
    sumSq y m ≤ val (y.getD j 0) * val (y.getD j 0) + (m : Rat) * (c * c) := by
  have hstrong : ∀ n, n ≤ m → sumSq y n ≤ (if j < n then val (y.getD j 0) * val (y.getD j 0) else 0) + (n : Rat) * (c * c) := by
    intro n
    induction n with
    | zero => intro _; rw [if_neg (by omega), show ((0 : Nat) : Rat) = 0 from rfl]; show (0 : Rat) ≤ _; grind
    | succ n ih =>
      intro hn
      have i := ih (by omega)
      have e : ((n + 1 : Nat) : Rat) = (n : Rat) + 1 := by rw [Rat.natCast_add]; rfl
      have cc := sqr_nonneg c
      rw [e]
      show sumSq y n + val (y.getD n 0) * val (y.getD n 0) ≤ _
      by_cases hj : n = j
      · subst hj
        rw [if_neg (by omega)] at i
        rw [if_pos (by omega)]
        grind
      · obtain ⟨a, b⟩ := h n (by omega) hj
        have := (abs_mul_le2 a b a b).1
        by_cases h2 : j < n
        · rw [if_pos h2] at i; rw [if_pos (by omega)]; grind
        · rw [if_neg h2] at i; rw [if_neg (by omega)]; grind
  have := hstrong m (Nat.le_refl _)
  have s := sqr_nonneg (val (y.getD j 0))
  split at this <;> grind

/-- the dot product of moderate numbers is finite -/
theorem dot_fin {x : List Nat} {m : Nat} (hm : m ≤ 65536) (hx : ∀ i, i < m → Bd (x.getD i 0) (p2 60)) (k : Nat) (hk : k ≤ m) :
    Fl.Fin (dotF x x k) ∧ 0 ≤ val (dotF x x k) ∧ val (dotF x x k) ≤ (k : Rat) * p2 121 := by
  have P := p2_pos 121
  have e120 : p2 60 * p2 60 = p2 120 := by rw [← p2_add]; rfl
  have e121 : p2 121 = 2 * p2 120 := by have := p2_half 120; rwa [show (120 + 1 : Int) = 121 by rfl] at this
  have big : p2 121 * 65537 ≤ p2 1000 := by
    have : p2 17 = 131072 := by rw [show (17 : Int) = ((17 : Nat) : Int) from rfl, p2_nat]; rfl
    have h1 : p2 121 * p2 17 = p2 138 := by rw [← p2_add]; rfl
    have h2 := p2_mono (show (138 : Int) ≤ 1000 by omega)
    rw [this] at h1
    grind
  have U := p2_m53
  have U0 := p2_pos (-53)
  have E0 := p2_pos (-1075)
  have E1 : p2 (-1075) ≤ p2 0 := p2_mono (by omega)
  have E2 : p2 0 ≤ p2 120 := p2_mono (by omega)
  induction k with
  | zero =>
    refine ⟨fin_zero, ?_, ?_⟩
    · show 0 ≤ val 0; rw [val_zero]; exact Rat.le_refl
    · show val 0 ≤ _; rw [val_zero, show ((0 : Nat) : Rat) = 0 from rfl]; grind
  | succ k ih =>
    obtain ⟨f1, d0, d1⟩ := ih (by omega)
    have hxk := hx k (by omega)
    have kb : (k : Rat) ≤ 65536 := Rat.natCast_le_natCast.2 (show k ≤ 65536 by omega)
    have k0 : (0 : Rat) ≤ (k : Rat) := Rat.natCast_le_natCast.2 (Nat.zero_le k)
    have sq0 := sqr_nonneg (val (x.getD k 0))
    have sq4 := (abs_mul_le2 hxk.2.1 hxk.2.2 hxk.2.1 hxk.2.2).1
    rw [e120] at sq4
    have kP := Rat.mul_le_mul_of_nonneg_right kb (Rat.le_of_lt P)
    have kP0 := Rat.mul_nonneg k0 (Rat.le_of_lt P)
    have p120 := p2_pos 120
    obtain ⟨fp, rp⟩ := (pf_mul hxk.1 hxk.1).small (by grind) (by grind)
    have p4 := rp.mono (rn_p2 120 (by omega)) sq4
    have p0 := rp.nonneg sq0
    have ek : ((k + 1 : Nat) : Rat) = (k : Rat) + 1 := by rw [Rat.natCast_add]; rfl
    obtain ⟨fs, rs⟩ := (pf_add f1 fp).small (by grind) (by grind)
    refine ⟨fs, rs.nonneg (by grind), ?_⟩
    have r8 := rn_repr (k + 1) 121 (by omega) (by omega)
    exact rs.mono r8 (by rw [ek]; grind)

theorem not_nan_of_bd {x : Nat} {K : Rat} (h : Bd x K) : isN x = false := by
  cases hn : isN x
  · rfl
  · exact absurd h.1 (not_fin_nan hn)

theorem factor_facts {y : List Nat} {m : Nat} (hm : m ≤ 4096) (hy : ∀ i, i < m → Bd (y.getD i 0) (p2 60)) (hbig : p2 (-400) ≤ sumSq y m) :
    Fl.Fin (factorF y m) ∧ 0 < val (factorF y m) ∧ val (factorF y m) * val (factorF y m) * sumSq y m ≤ 101 / 100 ∧ 99 / 100 ≤ val (factorF y m) * val (factorF y m) * sumSq y m := by
  have hn : ∀ i, i < m → isN (y.getD i 0) = false := fun i hi => not_nan_of_bd (hy i hi)
  have hf := (dot_fin (by omega) hy m (Nat.le_refl _)).1
  obtain ⟨g1, g2, g3, g4⟩ := dot_err (by omega) hn m (Nat.le_refl _) hf
  have sD : sgb (dotF y y m) = false := by
    rcases (dot_nonneg hn m (Nat.le_refl _)).1 with ⟨_, h⟩ | h
    · exact h
    · rw [h] at hf; exact absurd hf (not_fin_inf inf_INFW)
  have M0 : (0 : Rat) ≤ (m : Rat) := Rat.natCast_le_natCast.2 (Nat.zero_le m)
  have MM : (m : Rat) ≤ 4096 := Rat.natCast_le_natCast.2 hm
  have U0 := p2_pos (-53)
  have U1 := p2_m53
  have E0 := p2_pos (-1075)
  have E1 := eta_small
  have E2 : p2 (-900) ≤ p2 (-400) * p2 (-53) := by rw [← p2_add]; exact p2_mono (by omega)
  have P4 := p2_pos (-400)
  have P9 := p2_pos (-900)
  have S0 : 0 < sumSq y m := by grind
  have MU := Rat.mul_le_mul_of_nonneg_left MM (Rat.le_of_lt U0)
  have MU0 := Rat.mul_nonneg (Rat.le_of_lt U0) M0
  have ME := Rat.mul_le_mul_of_nonneg_left MM (Rat.le_of_lt E0)
  have SU := Rat.mul_le_mul_of_nonneg_right hbig (Rat.le_of_lt U0)
  have hh : 4 * (m : Rat) * p2 (-1075) ≤ p2 (-53) * sumSq y m := by grind
  obtain ⟨fa, apos, t1, t2, _⟩ := norm_factor (e := 2 * ((m : Rat) + 1) * p2 (-53) + p2 (-53)) hf sD hbig (by grind) (by grind) (by grind) (by grind)
  have ea : factorF y m = pf .quo 4607182418800017408 (psq (dotF y y m)) := rfl
  rw [← ea] at fa apos t1 t2
  refine ⟨fa, apos, ?_, ?_⟩ <;> grind

/-- the premise of the law, plainly -/
structure Diagonal (al of : List Nat) (th m k : Nat) : Prop where
  inp : Inp al of th m
  m1 : 1 ≤ m
  m2 : m ≤ 4096
  off : ∀ j, j + 1 < m → val (of.getD j 0) = 0
  kl : k < m
  at_k : val (al.getD k 0) = val th
  away : ∀ i, i < m → i ≠ k → AbsGe (val (pf .sub (al.getD i 0) th)) 1

section
variable {al of : List Nat} {th m k : Nat}

theorem Diagonal.dk (D : Diagonal al of th m k) : dV al th k = val (tinyF th) := by
  have h := pf_sub (D.inp.al k D.kl).1 D.inp.th.1
  rw [D.at_k, show val th - val th = 0 by grind] at h
  have p := p2_pos 1000
  obtain ⟨f, r⟩ := h.small (by grind) (by grind)
  unfold dV
  rw [if_pos (r.eq rn_zero)]
theorem Diagonal.di (D : Diagonal al of th m k) {i : Nat} (hi : i < m) (hik : i ≠ k) : AbsGe (dV al th i) 1 := by
  have h := D.away i hi hik
  unfold dV
  rw [if_neg (by unfold AbsGe at h; grind)]
  exact h
theorem Diagonal.tiny (D : Diagonal al of th m k) : p2 (-52) ≤ val (tinyF th) ∧ val (tinyF th) ≤ p2 (-28) := by
  have hk := D.inp.al k D.kl
  have ht : Bd th (p2 24) := ⟨D.inp.th.1, by rw [← D.at_k]; exact hk.2.1, by rw [← D.at_k]; exact hk.2.2⟩
  exact (tiny_facts ht (by omega) (by omega)).2
theorem one_p2 : p2 0 = 1 ∧ p2 (-52) ≤ 1 := by
  have := p2_mono (show (-52 : Int) ≤ 0 by omega)
  rw [p2_zero] at this
  exact ⟨p2_zero, this⟩
theorem Diagonal.far (D : Diagonal al of th m k) (j : Nat) (hj : j < m) : p2 (-52) ≤ dV al th j ∨ dV al th j ≤ -p2 (-52) := by
  by_cases e : j = k
  · subst e; rw [D.dk]; exact Or.inl D.tiny.1
  · have := D.di hj e
    have := one_p2.2
    unfold AbsGe at *
    grind

/-- one solve: the others do not grow, the k-th grows by 2^28 at least -/
theorem Diagonal.solve (D : Diagonal al of th m k) {b : List Nat} (hl : b.length = m) {c : Nat} {r : Rat} (hc0 : 0 ≤ val c)
    (hb : ∀ i, i < m → Bd (b.getD i 0) (p2 1)) (ho : ∀ i, i < m → i ≠ k → val (b.getD i 0) ≤ val c ∧ -val c ≤ val (b.getD i 0)) (hr0 : 0 ≤ r) (hr : p2 (-1022) ≤ r * p2 28) (hk : AbsGe (val (b.getD k 0)) r) :
    (∀ i, i < m → Bd ((solveF al of th m b).getD i 0) (p2 60)) ∧
    (∀ i, i < m → i ≠ k → val ((solveF al of th m b).getD i 0) ≤ val c ∧ -val c ≤ val ((solveF al of th m b).getD i 0)) ∧
    AbsGe (val ((solveF al of th m b).getD k 0)) (r * p2 28 - p2 (-53) * (r * p2 28)) := by
  have S := solve_diag D.inp D.m1 D.off hl hb (fun j hj => D.far j hj) m
  obtain ⟨q1, q2, q3⟩ := p2_53
  refine ⟨fun i hi => ?_, fun i hi hik => ?_, ?_⟩
  · obtain ⟨f, rn⟩ := S i (by omega) hi
    have hbi := (hb i hi).2
    have := quo_bd (B := p2 54) (p2_pos (-52)) (D.far i hi) (x := val (b.getD i 0)) (by grind) (by grind) (Rat.le_of_lt (p2_pos _))
    have h54 := p2_mono (show (54 : Int) ≤ 60 by omega)
    have := RN.bd rn (k := 60) (by omega) (by grind) (by grind)
    exact ⟨f, this.1, this.2⟩
  · obtain ⟨f, rn⟩ := S i (by omega) hi
    obtain ⟨h1, h2⟩ := ho i hi hik
    have hd := D.di hi hik
    have := quo_bd (e := 1) (B := val c) (by grind) (show 1 ≤ dV al th i ∨ dV al th i ≤ -1 by unfold AbsGe at hd; grind) (x := val (b.getD i 0)) (by grind) (by grind) hc0
    exact ⟨rn.mono (rn_val c) this.1, (rn_val c).neg.mono rn this.2⟩
  · obtain ⟨f, rn⟩ := S k (by have := D.kl; omega) D.kl
    rw [D.dk] at rn
    obtain ⟨t1, t2⟩ := D.tiny
    have t0 := p2_pos (-52)
    have e28 : p2 28 * p2 (-28) = 1 := by rw [← p2_add]; exact p2_zero
    have h28 := p2_pos 28
    have hq : AbsGe (val (b.getD k 0) / val (tinyF th)) (r * p2 28) :=
      AbsGe.quo (D := p2 (-28)) (by rw [Rat.mul_assoc, e28, Rat.mul_one]; exact hk) (by grind) t2 (Rat.mul_nonneg hr0 (Rat.le_of_lt h28))
    exact hq.rel rn hr

theorem rand_bd (m j : Nat) : Bd (randF m j) 1 := by
  obtain ⟨f, v⟩ := rand_val m j
  have hu := mixN_lt (stateS m (j + 1))
  have hn : mixN (stateS m (j + 1)) / 2048 ≤ 9007199254740992 := by omega
  refine ⟨f, ?_, ?_⟩
  all_goals
    rw [v]
    generalize mixN (stateS m (j + 1)) / 2048 = n at *
    have p0 := p2_pos (-52)
    have h52 := p2_m52'
    have h1 : (((n : Nat) : Int) - 4503599627370496 : Int) ≤ 4503599627370496 := by omega
    have h2 : -4503599627370496 ≤ (((n : Nat) : Int) - 4503599627370496 : Int) := by omega
    generalize (((n : Nat) : Int) - 4503599627370496 : Int) = z at *
    have h3 : (z : Rat) ≤ ((4503599627370496 : Int) : Rat) := Rat.intCast_le_intCast.2 h1
    have h4 : ((-4503599627370496 : Int) : Rat) ≤ (z : Rat) := Rat.intCast_le_intCast.2 h2
    rw [show ((4503599627370496 : Int) : Rat) = 4503599627370496 from rfl] at h3
    rw [show ((-4503599627370496 : Int) : Rat) = -4503599627370496 from rfl] at h4
    have := Rat.mul_le_mul_of_nonneg_right h3 (Rat.le_of_lt p0)
    have := Rat.mul_le_mul_of_nonneg_right h4 (Rat.le_of_lt p0)
    grind

theorem rand_far (hm : m ≤ 4096) {j : Nat} (hj : j < m) : AbsGe (val (randF m j)) (3 * p2 (-52)) := by
  obtain ⟨f, v⟩ := rand_val m j
  have hd := Draws.far m j hm hj
  rw [v]
  generalize mixN (stateS m (j + 1)) / 2048 = n at *
  have p0 := p2_pos (-52)
  have h1 : (((n : Nat) : Int) - 4503599627370496 : Int) ≤ -3 ∨ 3 ≤ (((n : Nat) : Int) - 4503599627370496 : Int) := by omega
  generalize (((n : Nat) : Int) - 4503599627370496 : Int) = z at *
  rcases h1 with h | h
  · right
    have h3 : (z : Rat) ≤ ((-3 : Int) : Rat) := Rat.intCast_le_intCast.2 h
    rw [show ((-3 : Int) : Rat) = -3 from rfl] at h3
    have := Rat.mul_le_mul_of_nonneg_right h3 (Rat.le_of_lt p0)
    grind
  · left
    have h3 : ((3 : Int) : Rat) ≤ (z : Rat) := Rat.intCast_le_intCast.2 h
    rw [show ((3 : Int) : Rat) = 3 from rfl] at h3
    exact Rat.mul_le_mul_of_nonneg_right h3 (Rat.le_of_lt p0)

theorem unit_get {y : List Nat} (hl : y.length = m) {i : Nat} (hi : i < m) : (unitF y m).getD i 0 = pf .mul (y.getD i 0) (factorF y m) := by
  unfold unitF
  rw [scaleTo_get y _ m (by omega) i, if_pos hi]

/-- THE LAW, plainly -/
theorem Diagonal.pick (D : Diagonal al of th m k) : isUnitF (eigF al of th m) m = true ∧ Fl.Fin ((eigF al of th m).getD k 0) ∧ AbsGe (val ((eigF al of th m).getD k 0)) (1 / 2) := by
  have U := p2_m53
  have U0 := p2_pos (-53)
  obtain ⟨_, e1, e2⟩ := p2_53
  obtain ⟨z0, _⟩ := one_p2
  have M0 : (0 : Rat) ≤ (m : Rat) := Rat.natCast_le_natCast.2 (Nat.zero_le m)
  have MM : (m : Rat) ≤ 4096 := Rat.natCast_le_natCast.2 D.m2
  have hbl := randTo_length m m
  have hbg : ∀ i, i < m → (randTo m m).getD i 0 = randF m i := fun i hi => by rw [randTo_get m m (Nat.le_refl _) i, if_pos hi]
  -- the first solve
  have e24 : 3 * p2 (-52) * p2 28 = 3 * p2 (-24) := by rw [Rat.mul_assoc, ← p2_add]; rfl
  have P24 := p2_pos (-24)
  have P52 := p2_pos (-52)
  have L24 := p2_mono (show (-1022 : Int) ≤ -24 by omega)
  obtain ⟨s1, s2, s3⟩ := D.solve hbl (c := 4607182418800017408) (r := 3 * p2 (-52)) (by rw [val_one]; grind)
    (fun i hi => by rw [hbg i hi]; exact (rand_bd m i).mono (by rw [e1]; grind))
    (fun i hi _ => by rw [hbg i hi, val_one]; exact (rand_bd m i).2) (by grind) (by rw [e24]; grind)
    (by rw [hbg k D.kl]; exact rand_far D.m2 D.kl)
  rw [e24] at s3
  rw [val_one] at s2
  have hyl : (solveF al of th m (randTo m m)).length = m := by rw [solveF_length]; exact hbl
  have ex1 : iterF al of th m 1 = unitF (solveF al of th m (randTo m m)) m := rfl
  have ex2 : eigF al of th m = unitF (solveF al of th m (iterF al of th m 1)) m := rfl
  generalize solveF al of th m (randTo m m) = y at *
  have q3 : AbsGe (val (y.getD k 0)) (2 * p2 (-24)) := s3.mono (by have := Rat.mul_le_mul_of_nonneg_right (show p2 (-53) ≤ 1 / 1024 by grind) (Rat.le_of_lt P24); grind)
  have yk2 := q3.sq (by grind)
  have ge1 := sumSq_ge (y := y) D.kl
  have e48 : p2 (-24) * p2 (-24) = p2 (-48) := by rw [← p2_add]; rfl
  have L48 := p2_mono (show (-400 : Int) ≤ -48 by omega)
  have P48 := p2_pos (-48)
  have big1 : p2 (-400) ≤ sumSq y m := by grind
  obtain ⟨fa, a0, a1, a2⟩ := factor_facts D.m2 s1 big1
  have hn1 : ∀ i, i < m → isN (y.getD i 0) = false := fun i hi => not_nan_of_bd (s1 i hi)
  obtain ⟨v1, _, _⟩ := scale_unit hyl (by have := D.m2; omega) hn1 (dot_fin (by have := D.m2; omega) s1 m (Nat.le_refl _)).1 big1
  rw [← ex1] at v1
  have hxg : ∀ i, i < m → (iterF al of th m 1).getD i 0 = pf .mul (y.getD i 0) (factorF y m) := fun i hi => by rw [ex1]; exact unit_get hyl hi
  have hxl := iterF_length al of th m 1
  generalize iterF al of th m 1 = x at *
  generalize hA : factorF y m = A at *
  -- a lower bound on the factor
  have sumle := sumSq_le m (fun i hi => (s1 i hi).2)
  have e120 : p2 60 * p2 60 = p2 120 := by rw [← p2_add]; rfl
  rw [e120] at sumle
  have P120 := p2_pos 120
  have m120 := Rat.mul_le_mul_of_nonneg_right MM (Rat.le_of_lt P120)
  have aGe : p2 (-70) ≤ val A := by
    have : AbsGe (val A) (p2 (-70)) := by
      apply AbsGe.of_sq
      apply Classical.byContradiction
      intro hc
      have hc' : val A * val A < p2 (-70) * p2 (-70) := by grind
      have e140 : p2 (-70) * p2 (-70) = p2 (-140) := by rw [← p2_add]; rfl
      rw [e140] at hc'
      have S0 := sumSq_nonneg y m
      have h1 := Rat.mul_le_mul_of_nonneg_right (Rat.le_of_lt hc') S0
      have h2 := Rat.mul_le_mul_of_nonneg_left (show sumSq y m ≤ 4096 * p2 120 by grind) (Rat.le_of_lt (p2_pos (-140)))
      have h3 : p2 (-140) * (4096 * p2 120) = p2 (-8) := by
        have : p2 12 = 4096 := by rw [show (12 : Int) = ((12 : Nat) : Int) from rfl, p2_nat]; rfl
        rw [← this, ← p2_add, ← p2_add]; rfl
      have h4 : p2 (-8) ≤ p2 (-2) := p2_mono (by omega)
      have h5 : p2 (-2) * 4 = 1 := by rw [← e2, ← p2_add]; exact p2_zero
      grind
    unfold AbsGe at this
    have := p2_pos (-70)
    grind
  -- the first vector of length one
  have hx0 : ∀ i, i < m → i ≠ k → val (x.getD i 0) ≤ val A ∧ -val A ≤ val (x.getD i 0) := by
    intro i hi hik
    obtain ⟨f, _⟩ := v1 i hi
    rw [hxg i hi] at f ⊢
    have rn := RNW.rn_fin (pf_mul (s1 i hi).1 fa) f
    obtain ⟨y1, y2⟩ := s2 i hi hik
    have h1 := Rat.mul_le_mul_of_nonneg_right y1 (Rat.le_of_lt a0)
    have h2 := Rat.mul_le_mul_of_nonneg_right y2 (Rat.le_of_lt a0)
    exact ⟨rn.mono (rn_val A) (by grind), (rn_val A).neg.mono rn (by grind)⟩
  have P70 := p2_pos (-70)
  have e94 : p2 (-24) * p2 (-70) = p2 (-94) := by rw [← p2_add]; rfl
  have L94 := p2_mono (show (-1022 : Int) ≤ -94 by omega)
  have aP := Rat.mul_le_mul_of_nonneg_left aGe (Rat.le_of_lt P24)
  have aP0 := Rat.mul_nonneg (Rat.le_of_lt P24) (Rat.le_of_lt a0)
  have uaP := Rat.mul_le_mul_of_nonneg_right (show p2 (-53) ≤ 1 / 1024 by grind) aP0
  have hxk : AbsGe (val (x.getD k 0)) (p2 (-24) * val A * (299 / 100)) := by
    obtain ⟨f, _⟩ := v1 k D.kl
    rw [hxg k D.kl] at f ⊢
    have rn := RNW.rn_fin (pf_mul (s1 k D.kl).1 fa) f
    have h := s3.mul (Rat.le_of_lt a0)
    have h2 := h.rel rn (by grind)
    refine h2.mono ?_
    have uu := Rat.mul_le_mul_of_nonneg_right (show p2 (-53) ≤ 1 / 1024 by grind) (Rat.mul_nonneg (Rat.le_of_lt U0) aP0)
    have uuP := Rat.mul_nonneg (Rat.le_of_lt U0) (Rat.mul_nonneg (Rat.le_of_lt U0) aP0)
    have uP := Rat.mul_nonneg (Rat.le_of_lt U0) aP0
    grind
  -- the second solve
  have hx60 : ∀ i, i < m → Bd (x.getD i 0) (p2 1) := by
    intro i hi
    obtain ⟨f, h1, h2⟩ := v1 i hi
    have h48 : p2 (-48) ≤ 1 := by have := p2_mono (show (-48 : Int) ≤ 0 by omega); rw [z0] at this; exact this
    exact ⟨f, by rw [e1]; grind, by rw [e1]; grind⟩
  have e4 : p2 (-24) * p2 28 = 16 := by
    rw [← p2_add, show (-24 + 28 : Int) = ((4 : Nat) : Int) from rfl, p2_nat]; rfl
  have L70 := p2_mono (show (-1022 : Int) ≤ -70 by omega)
  have e5 : p2 (-24) * val A * (299 / 100) * p2 28 = 4784 / 100 * val A := by grind
  obtain ⟨w1, w2, w3⟩ := D.solve hxl (c := A) (r := p2 (-24) * val A * (299 / 100)) (Rat.le_of_lt a0) hx60 hx0 (by grind) (by rw [e5]; grind) hxk
  rw [e5] at w3
  have hzl : (solveF al of th m x).length = m := by rw [solveF_length]; exact hxl
  generalize solveF al of th m x = z at *
  have w4 : AbsGe (val (z.getD k 0)) (47 * val A) := w3.mono (by have := Rat.mul_le_mul_of_nonneg_right (show p2 (-53) ≤ 1 / 1024 by grind) (Rat.le_of_lt a0); grind)
  have zk2 := w4.sq (by grind)
  have ge2 := sumSq_ge (y := z) D.kl
  have aa := Rat.mul_le_mul_of_nonneg_left aGe (Rat.le_of_lt P70)
  have aa2 := Rat.mul_le_mul_of_nonneg_right aGe (Rat.le_of_lt a0)
  have e140 : p2 (-70) * p2 (-70) = p2 (-140) := by rw [← p2_add]; rfl
  have L140 := p2_mono (show (-400 : Int) ≤ -140 by omega)
  have P140 := p2_pos (-140)
  have big2 : p2 (-400) ≤ sumSq z m := by grind
  have le2 := sumSq_but m w2
  have hn2 : ∀ i, i < m → isN (z.getD i 0) = false := fun i hi => not_nan_of_bd (w1 i hi)
  obtain ⟨v2, un, _⟩ := scale_unit hzl (by have := D.m2; omega) hn2 (dot_fin (by have := D.m2; omega) w1 m (Nat.le_refl _)).1 big2
  obtain ⟨fb, b0, b1, b2⟩ := factor_facts D.m2 w1 big2
  rw [ex2]
  refine ⟨un, (v2 k D.kl).1, ?_⟩
  have f := (v2 k D.kl).1
  rw [unit_get hzl D.kl] at f ⊢
  have rn := RNW.rn_fin (pf_mul (w1 k D.kl).1 fb) f
  generalize factorF z m = B at *
  have hhalf : p2 (-1) = 1 / 2 := by
    have : p2 (-1) * p2 1 = 1 := by rw [← p2_add]; exact p2_zero
    rw [e1] at this; grind
  rw [← hhalf]
  refine AbsGe.rn ?_ rn (rn_p2 (-1) (by omega))
  rw [hhalf]
  apply AbsGe.of_sq
  have mA := Rat.mul_le_mul_of_nonneg_right MM (sqr_nonneg (val A))
  have BB := sqr_nonneg (val B)
  have S3 : sumSq z m ≤ 3 * (val (z.getD k 0) * val (z.getD k 0)) := by grind
  have := Rat.mul_le_mul_of_nonneg_left S3 BB
  grind
end
end Go.Proofs.Qxb6605993a
