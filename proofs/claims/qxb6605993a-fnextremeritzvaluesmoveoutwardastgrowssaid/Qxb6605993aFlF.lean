/- Division and square root on finite words. -/
import Derived.Test.Qxb6605993aFlE
namespace Go.Proofs.Qxb6605993a.Fl
open Ieee

/-- the rounded quotient stands to every multiple of its last place but one as the quotient itself does -/
theorem sticky_same {A st : Nat} {q g : Rat} (hg : 0 < g) (h1 : q < ((A : Rat) + 1) * g) (hst : (st = 0 ∧ q = (A : Rat) * g) ∨ (st = 1 ∧ (A : Rat) * g < q)) :
    Same g q (((2 * A + st : Nat) : Rat) * (g / 2)) := by
  intro c
  have e : ((2 * A + st : Nat) : Rat) * (g / 2) = ((A : Rat) + (st : Rat) / 2) * g := by
    rw [Rat.natCast_add, Rat.natCast_mul]
    have : ((2 : Nat) : Rat) = 2 := rfl
    rw [this]; grind
  rw [e]
  rcases hst with ⟨rfl, hq⟩ | ⟨rfl, hq⟩
  · have : ((0 : Nat) : Rat) = 0 := rfl
    rw [this, hq]
    have e2 : ((A : Rat) + 0 / 2) * g = (A : Rat) * g := by grind
    rw [e2]; exact ⟨Iff.rfl, Iff.rfl⟩
  · have e1 : ((1 : Nat) : Rat) = 1 := rfl
    rw [e1]
    -- c ≤ A or A + 1 ≤ c
    rcases Int.lt_or_le (A : Int) c with hc | hc
    · have hc' : ((A : Nat) : Rat) + 1 ≤ (c : Rat) := by
        have := Rat.intCast_le_intCast.2 (show (A : Int) + 1 ≤ c by omega)
        rw [Rat.intCast_add] at this; exact this
      have h3 := Rat.mul_le_mul_of_nonneg_right hc' (Rat.le_of_lt hg)
      constructor
      · constructor <;> intro h <;> exfalso <;> grind
      · constructor <;> intro _ <;> grind
    · have hc' : (c : Rat) ≤ ((A : Nat) : Rat) := Rat.intCast_le_intCast.2 hc
      have h3 := Rat.mul_le_mul_of_nonneg_right hc' (Rat.le_of_lt hg)
      constructor
      · constructor <;> intro _ <;> grind
      · constructor <;> intro h <;> exfalso <;> grind

theorem natPos {n : Nat} (h : n ≠ 0) : (0 : Rat) < (n : Rat) := by
  have := Rat.natCast_lt_natCast.2 (show 0 < n by omega); exact this

/-- the exact quotient of two magnitudes, its whole part at the place of the dividend, and what is left -/
theorem quot_parts (m n : Nat) (hm : m ≠ 0) (hn : n ≠ 0) (i j : Int) :
    ∃ (A st : Nat) (g : Rat), 0 < g ∧ 9007199254740992 ≤ A ∧
      2 * (m <<< (54 + n.log2 - m.log2) / n) + (m <<< (54 + n.log2 - m.log2) % n != 0).toNat = 2 * A + st ∧
      p2 (i - j - (54 + n.log2 - m.log2 : Nat) - 1) = g / 2 ∧ p2 (i - j - (54 + n.log2 - m.log2 : Nat) - 1 + 1) = g ∧
      (A : Rat) * g ≤ ((m : Rat) * p2 i) / ((n : Rat) * p2 j) ∧ ((m : Rat) * p2 i) / ((n : Rat) * p2 j) < ((A : Rat) + 1) * g ∧
      ((st = 0 ∧ ((m : Rat) * p2 i) / ((n : Rat) * p2 j) = (A : Rat) * g) ∨ (st = 1 ∧ (A : Rat) * g < ((m : Rat) * p2 i) / ((n : Rat) * p2 j))) := by
  generalize hmore : 54 + n.log2 - m.log2 = more
  have hdiv : m <<< more = m * 2 ^ more := Nat.shiftLeft_eq _ _
  have np := natPos hn
  have pj := p2_pos j
  have e0 : p2 (i - j - (more : Nat) - 1 + 1) = p2 (i - j - (more : Nat)) := by congr 1; omega
  have e1 : p2 (i - j - (more : Nat) - 1) * 2 = p2 (i - j - (more : Nat)) := by rw [← p2_succ, e0]
  have gp := p2_pos (i - j - (more : Nat))
  refine ⟨m <<< more / n, (m <<< more % n != 0).toNat, p2 (i - j - (more : Nat)), gp, ?_, rfl, by grind, e0, ?_⟩
  · have h1 : 2 ^ m.log2 ≤ m := Nat.log2_self_le hm
    have h2 : n < 2 ^ (n.log2 + 1) := Nat.lt_log2_self
    have h3 : 2 ^ (m.log2 + more) ≤ m * 2 ^ more := by
      rw [Nat.pow_add]; exact Nat.mul_le_mul_right _ h1
    have h4 : 2 ^ (54 + n.log2) ≤ 2 ^ (m.log2 + more) := Nat.pow_le_pow_right (by omega) (by omega)
    rw [Nat.le_div_iff_mul_le (by omega), hdiv]
    have h5 : 9007199254740992 * 2 ^ (n.log2 + 1) = 2 ^ (54 + n.log2) := by
      rw [show 54 + n.log2 = 53 + (n.log2 + 1) by omega, Nat.pow_add 2 53]
    have h6 : 9007199254740992 * n ≤ 9007199254740992 * 2 ^ (n.log2 + 1) := Nat.mul_le_mul_left _ (by omega)
    omega
  · -- the quotient times n p2 j is m p2 i
    have hd := Nat.div_add_mod (m <<< more) n
    have hr : m <<< more % n < n := Nat.mod_lt _ (by omega)
    generalize hA : m <<< more / n = A at *
    generalize hR : m <<< more % n = R at *
    have key : (m : Rat) * p2 i = ((n : Rat) * (A : Rat) + (R : Rat)) * (p2 (i - j - (more : Nat)) * p2 j) := by
      have c1 : ((n * A + R : Nat) : Rat) = (m : Rat) * p2 more := by
        rw [hd, hdiv, Rat.natCast_mul, ← p2_nat]
      rw [Rat.natCast_add, Rat.natCast_mul] at c1
      have c2 : p2 i = p2 more * (p2 (i - j - (more : Nat)) * p2 j) := by
        rw [← p2_add, ← p2_add]; congr 1; omega
      rw [c2, c1]; grind
    generalize p2 (i - j - (more : Nat)) = g at *
    have q : ((m : Rat) * p2 i) / ((n : Rat) * p2 j) = (A : Rat) * g + ((R : Rat) / (n : Rat)) * g := by
      rw [key]
      have n1 : (n : Rat) ≠ 0 := by grind
      have n2 : p2 j ≠ 0 := by grind
      generalize (n : Rat) = nn at *
      generalize p2 j = pp at *
      grind
    rw [q]
    have r0 : (0 : Rat) ≤ (R : Rat) / (n : Rat) := by
      have h0 : (0 : Rat) ≤ (R : Rat) := by exact_mod_cast Rat.natCast_le_natCast.2 (Nat.zero_le R)
      rw [Rat.div_def]
      exact Rat.mul_nonneg h0 (Rat.le_of_lt (Rat.inv_pos.2 np))
    have r1 : (R : Rat) / (n : Rat) < 1 := by
      rw [Rat.div_lt_iff np, Rat.one_mul]; exact Rat.natCast_lt_natCast.2 hr
    have t0 := Rat.mul_nonneg r0 (Rat.le_of_lt gp)
    have t1 := Rat.mul_lt_mul_of_pos_right r1 gp
    refine ⟨by grind, by grind, ?_⟩
    by_cases hz : R = 0
    · left
      subst hz
      refine ⟨rfl, ?_⟩
      have : ((0 : Nat) : Rat) = 0 := rfl
      rw [this]; grind
    · right
      refine ⟨by simp [hz], ?_⟩
      have r2 : (0 : Rat) < (R : Rat) / (n : Rat) := by
        rw [Rat.lt_div_iff np, Rat.zero_mul]; exact natPos hz
      have t2 := Rat.mul_lt_mul_of_pos_right r2 gp
      grind

theorem div_rn {x y : Nat} (hx : Fin x) (hy : Fin y) (hy0 : val y ≠ 0) : ∃ z, double.div x y = some z ∧ RNW (val x / val y) z := by
  obtain ⟨m, i, e1, v1, _⟩ := read_fin hx
  obtain ⟨n, j, e2, v2, _⟩ := read_fin hy
  have hn : n ≠ 0 := by
    intro h
    apply hy0
    unfold val
    rw [v2, h]
    have : ((0 : Nat) : Rat) = 0 := rfl
    rw [this]; cases sgb y <;> simp [sv] <;> grind
  unfold Format.div
  rw [e1, e2]
  have eq1 : (Datum.number (sgb x) m i).quotient (double.fractionBits + 2) (Datum.number (sgb y) n j) = some (.number (sgb x ^^ sgb y) (2 * (m <<< (54 + n.log2 - m.log2) / n) + (m <<< (54 + n.log2 - m.log2) % n != 0).toNat) (i - j - (54 + n.log2 - m.log2 : Nat) - 1)) := by
    simp only [Datum.quotient, d_frac]
    rw [if_neg hn]
  rw [eq1]
  refine ⟨_, rfl, ?_⟩
  have hval : val x / val y = sv (sgb x ^^ sgb y) (((m : Rat) * p2 i) / ((n : Rat) * p2 j)) := by
    unfold val
    rw [v1, v2]
    have n1 := natPos hn
    have n2 := p2_pos j
    have n3 : (n : Rat) * p2 j ≠ 0 := by have := Rat.mul_pos n1 n2; grind
    generalize (n : Rat) * p2 j = d at *
    generalize (m : Rat) * p2 i = c at *
    cases sgb x <;> cases sgb y <;> simp [sv] <;> grind
  rw [hval]
  by_cases hm : m = 0
  · subst hm
    have z1 : 2 * (0 <<< (54 + n.log2 - Nat.log2 0) / n) + (0 <<< (54 + n.log2 - Nat.log2 0) % n != 0).toNat = 0 := by simp
    rw [z1]
    have := write_number (sgb x ^^ sgb y) 0 (i - j - (54 + n.log2 - Nat.log2 0 : Nat) - 1)
    have z2 : ((0 : Nat) : Rat) = 0 := rfl
    rw [z2] at this ⊢
    have z3 : (0 : Rat) * p2 i / ((n : Rat) * p2 j) = 0 := by rw [Rat.zero_mul, Rat.div_def, Rat.zero_mul]
    have z4 : (0 : Rat) * p2 (i - j - (54 + n.log2 - Nat.log2 0 : Nat) - 1) = 0 := Rat.zero_mul _
    rw [z3]
    rw [z4] at this
    exact this
  · obtain ⟨A, st, g, hg, hA, eM, eP, eP1, q0, q1, hst⟩ := quot_parts m n hm hn i j
    rw [eM]
    have hmag : 2 * A + st ≠ 0 := by omega
    have hsame := sticky_same hg q1 hst
    rw [← eP] at hsame
    obtain ⟨R, er, hR⟩ := nearest_same (sgb x ^^ sgb y) (2 * A + st) (i - j - (54 + n.log2 - m.log2 : Nat) - 1) hmag (((m : Rat) * p2 i) / ((n : Rat) * p2 j)) (Or.inr ⟨by omega, by rw [eP1]; exact hsame⟩)
    have qpos : 0 ≤ ((m : Rat) * p2 i) / ((n : Rat) * p2 j) := by
      have h0 : (0 : Rat) ≤ (A : Rat) := by exact_mod_cast Rat.natCast_le_natCast.2 (Nat.zero_le A)
      have := Rat.mul_nonneg h0 (Rat.le_of_lt hg); grind
    refine ⟨sgb x ^^ sgb y, R, er, ?_, ?_, ?_⟩
    · intro hs; rw [hs]; exact qpos
    · intro hs; rw [hs, sv_true]; grind
    · cases hs : (sgb x ^^ sgb y)
      · exact hR
      · rw [sv_true, sv_true, show - -(((m : Rat) * p2 i) / ((n : Rat) * p2 j)) = ((m : Rat) * p2 i) / ((n : Rat) * p2 j) by grind]; exact hR


/-! ### the square root -/
theorem rootFrom_spec (n : Nat) : ∀ (todo root : Nat), root * root ≤ n → n < (root + 2 ^ todo) * (root + 2 ^ todo) →
    Datum.rootFrom n todo root * Datum.rootFrom n todo root ≤ n ∧ n < (Datum.rootFrom n todo root + 1) * (Datum.rootFrom n todo root + 1) := by
  intro todo
  induction todo with
  | zero =>
    intro root h1 h2
    unfold Datum.rootFrom
    exact ⟨h1, by simpa using h2⟩
  | succ todo ih =>
    intro root h1 h2
    unfold Datum.rootFrom
    simp only [Nat.one_shiftLeft]
    split
    · rename_i h
      refine ih _ h ?_
      rw [Nat.add_assoc, ← Nat.two_mul, Nat.mul_comm 2, ← Nat.pow_succ]; exact h2
    · rename_i h
      exact ih _ h1 (by omega)

theorem root_spec (n : Nat) : Datum.rootFrom n (n.log2 / 2 + 1) 0 * Datum.rootFrom n (n.log2 / 2 + 1) 0 ≤ n ∧ n < (Datum.rootFrom n (n.log2 / 2 + 1) 0 + 1) * (Datum.rootFrom n (n.log2 / 2 + 1) 0 + 1) := by
  refine rootFrom_spec n _ 0 (by omega) ?_
  have h1 : n < 2 ^ (n.log2 + 1) := Nat.lt_log2_self
  have h2 : 2 ^ (n.log2 + 1) ≤ 2 ^ (n.log2 / 2 + 1 + (n.log2 / 2 + 1)) := Nat.pow_le_pow_right (by omega) (by omega)
  have h3 : 2 ^ (n.log2 / 2 + 1 + (n.log2 / 2 + 1)) = 2 ^ (n.log2 / 2 + 1) * 2 ^ (n.log2 / 2 + 1) := Nat.pow_add _ _ _
  simp only [Nat.zero_add]
  rw [← h3]
  exact Nat.lt_of_lt_of_le h1 h2

/-- a number whose square is within 3/2 u of x, rounded: what sqrt gives -/
theorem sqrt_rn {x : Nat} (hx : Fin x) (hs : sgb x = false) (h0 : val x ≠ 0) :
    ∃ z s, double.sqrt x = some z ∧ RNW s z ∧ 0 < s ∧ s * s ≤ val x + val x * (3 * p2 (-54)) ∧ val x ≤ s * s + val x * (3 * p2 (-54)) := by
  obtain ⟨m, i, e1, v1, _⟩ := read_fin hx
  have hv : val x = (m : Rat) * p2 i := by unfold val; rw [hs, sv_false, v1]
  have hm : m ≠ 0 := by
    intro h
    apply h0
    rw [hv, h]
    have : ((0 : Nat) : Rat) = 0 := rfl
    rw [this, Rat.zero_mul]
  unfold Format.sqrt
  rw [e1, hs]
  generalize hmore : 2 * (double.fractionBits + 2) - m.log2 + ((i - ((2 * (double.fractionBits + 2) - m.log2 : Nat) : Int)) % 2).toNat = more
  have hm108 : 108 ≤ m.log2 + more := by rw [← hmore, d_frac]; omega
  have heven : ∃ h : Int, i - (more : Int) = 2 * h := by
    refine ⟨(i - (more : Int)) / 2, ?_⟩
    rw [← hmore]; omega
  obtain ⟨h, hh⟩ := heven
  have eq1 : (Datum.number false m i).root (double.fractionBits + 2) = some (.number false (2 * Datum.rootFrom (m <<< more) ((m <<< more).log2 / 2 + 1) 0 + (Datum.rootFrom (m <<< more) ((m <<< more).log2 / 2 + 1) 0 * Datum.rootFrom (m <<< more) ((m <<< more).log2 / 2 + 1) 0 != m <<< more).toNat) (h - 1)) := by
    have e2 : (i - (more : Int)) / 2 - 1 = h - 1 := by omega
    rw [← e2, ← hmore]
    simp only [Datum.root]
    rw [if_neg hm]
    rfl
  rw [eq1]
  have hroot := root_spec (m <<< more)
  have hn : m <<< more = m * 2 ^ more := Nat.shiftLeft_eq _ _
  generalize hN : m <<< more = N at *
  generalize hW : Datum.rootFrom N (N.log2 / 2 + 1) 0 = W at *
  have hNbig : 2 ^ 108 ≤ N := by
    have h1 : 2 ^ m.log2 ≤ m := Nat.log2_self_le hm
    have h3 : 2 ^ (m.log2 + more) ≤ m * 2 ^ more := by
      rw [Nat.pow_add]; exact Nat.mul_le_mul_right _ h1
    have h4 : 2 ^ 108 ≤ 2 ^ (m.log2 + more) := Nat.pow_le_pow_right (by omega) hm108
    omega
  have hWbig : 18014398509481984 ≤ W := by
    rcases Nat.lt_or_ge W 18014398509481984 with hlt | hge
    · exfalso
      have h5 : (W + 1) * (W + 1) ≤ 18014398509481984 * 18014398509481984 := Nat.mul_le_mul (by omega) (by omega)
      have h6 : 18014398509481984 * 18014398509481984 = 2 ^ 108 := by decide
      omega
    · exact hge
  generalize hst : (W * W != N).toNat = st
  have hst01 : (st = 0 ∧ W * W = N) ∨ (st = 1 ∧ W * W ≠ N) := by
    rw [← hst]
    by_cases hq : W * W = N
    · left; exact ⟨by simp [hq], hq⟩
    · right; exact ⟨by simp [hq], hq⟩
  have hw := write_number false (2 * W + st) (h - 1)
  rw [sv_false] at hw
  have hp := p2_pos h
  have e2 : p2 (h - 1) * 2 = p2 h := by rw [← p2_succ]; congr 1; omega
  have es : ((2 * W + st : Nat) : Rat) * p2 (h - 1) = ((W : Rat) + (st : Rat) / 2) * p2 h := by
    rw [Rat.natCast_add, Rat.natCast_mul, ← e2]
    have : ((2 : Nat) : Rat) = 2 := rfl
    rw [this]; grind
  rw [es] at hw
  refine ⟨_, ((W : Rat) + (st : Rat) / 2) * p2 h, rfl, hw, ?_, ?_, ?_⟩
  · have w0 : (0 : Rat) < (W : Rat) := natPos (by omega)
    have s0 : (0 : Rat) ≤ (st : Rat) := by exact_mod_cast Rat.natCast_le_natCast.2 (Nat.zero_le st)
    exact Rat.mul_pos (by grind) hp
  all_goals
    -- val x = N p2 (2h)
    have hx2 : val x = (N : Rat) * (p2 h * p2 h) := by
      rw [hv]
      have c1 : (N : Rat) = (m : Rat) * p2 more := by rw [hn, Rat.natCast_mul, ← p2_nat]
      have c2 : p2 i = p2 more * (p2 h * p2 h) := by rw [← p2_add, ← p2_add]; congr 1; omega
      rw [c1, c2]; grind
    have r1 : (W : Rat) * (W : Rat) ≤ (N : Rat) := by
      rw [← Rat.natCast_mul]; exact Rat.natCast_le_natCast.2 hroot.1
    have r2 : (N : Rat) < ((W : Rat) + 1) * ((W : Rat) + 1) := by
      have := Rat.natCast_lt_natCast.2 hroot.2
      rw [Rat.natCast_mul, Rat.natCast_add] at this; exact this
    have r3 : (18014398509481984 : Rat) ≤ (W : Rat) := Rat.natCast_le_natCast.2 hWbig
    have u54 : p2 (-54) * 18014398509481984 = 1 := by
      have : p2 54 = 18014398509481984 := by rw [show (54 : Int) = ((54 : Nat) : Int) from rfl, p2_nat]; rfl
      rw [← this]; exact p2_neg_mul 54
    have up := p2_pos (-54)
    have pp := Rat.mul_pos hp hp
    -- W (3 2^-54) W ≥ 3 W ≥ 2 W + 1
    have r4 : 2 * (W : Rat) + 1 ≤ (N : Rat) * (3 * p2 (-54)) := by
      have t1 := Rat.mul_le_mul_of_nonneg_left r3 (Rat.le_of_lt up)
      rw [u54] at t1
      have w0 : (0 : Rat) ≤ (W : Rat) := by grind
      have t2 := Rat.mul_le_mul_of_nonneg_right t1 w0
      have t3 := Rat.mul_le_mul_of_nonneg_left r1 (Rat.le_of_lt up)
      grind
    rw [hx2]
  · have key : ((W : Rat) + (st : Rat) / 2) * ((W : Rat) + (st : Rat) / 2) ≤ (N : Rat) + (N : Rat) * (3 * p2 (-54)) := by
      rcases hst01 with ⟨rfl, hq⟩ | ⟨rfl, hq⟩
      · have z : ((0 : Nat) : Rat) = 0 := rfl
        rw [z]
        have : (0 : Rat) ≤ (N : Rat) * (3 * p2 (-54)) := by grind
        grind
      · have z : ((1 : Nat) : Rat) = 1 := rfl
        rw [z]; grind
    have := Rat.mul_le_mul_of_nonneg_right key (Rat.le_of_lt pp)
    grind
  · have key : (N : Rat) ≤ ((W : Rat) + (st : Rat) / 2) * ((W : Rat) + (st : Rat) / 2) + (N : Rat) * (3 * p2 (-54)) := by
      have s0 : (0 : Rat) ≤ (st : Rat) := by exact_mod_cast Rat.natCast_le_natCast.2 (Nat.zero_le st)
      have w0 : (0 : Rat) ≤ (W : Rat) := by grind
      have t := Rat.mul_nonneg w0 s0
      have t2 := Rat.mul_nonneg s0 s0
      grind
    have := Rat.mul_le_mul_of_nonneg_right key (Rat.le_of_lt pp)
    grind

end Go.Proofs.Qxb6605993a.Fl
