/- The plain law of solveShifted: the factor stays bounded; NaNs stay; zeros stay; a right side that is not tiny has a solution that is not tiny. -/
import Derived.Test.Qxb6605993aScaleP
import Derived.Test.Qxb6605993aSolveM
namespace Go.Proofs.Qxb6605993a
open Ieee Fl

/-- finite, and of magnitude at most K -/
def Bd (x : Nat) (K : Rat) : Prop := Fl.Fin x ∧ val x ≤ K ∧ -K ≤ val x

theorem rn_p2 (k : Int) (h : -1074 ≤ k) : RN (p2 k) (p2 k) := by
  have := rn_repr 1 k (by omega) h
  rw [show ((1 : Nat) : Rat) = 1 from rfl, Rat.one_mul] at this; exact this

theorem RN.bd {r v : Rat} {k : Int} (h : RN r v) (hk : -1074 ≤ k) (h1 : r ≤ p2 k) (h2 : -p2 k ≤ r) : v ≤ p2 k ∧ -p2 k ≤ v :=
  ⟨h.mono (rn_p2 k hk) h1, (rn_p2 k hk).neg.mono h h2⟩

theorem bd_of {r : Rat} {z : Nat} {k : Int} (h : RNW r z) (hk : -1074 ≤ k) (hk2 : k ≤ 1000) (h1 : r ≤ p2 k) (h2 : -p2 k ≤ r) : Bd z (p2 k) ∧ RN r (val z) := by
  have hm := p2_mono hk2
  obtain ⟨f, rn⟩ := h.small (by grind) (by grind)
  have := RN.bd rn hk h1 h2
  exact ⟨⟨f, this.1, this.2⟩, rn⟩

theorem Bd.sub {x y : Nat} {a b : Rat} {k : Int} (hx : Bd x a) (hy : Bd y b) (hk : -1074 ≤ k) (hk2 : k ≤ 1000) (h : a + b ≤ p2 k) : Bd (pf .sub x y) (p2 k) ∧ RN (val x - val y) (val (pf .sub x y)) :=
  bd_of (pf_sub hx.1 hy.1) hk hk2 (by have := hx.2; have := hy.2; grind) (by have := hx.2; have := hy.2; grind)

theorem abs_mul_le {l v K : Rat} (l1 : l ≤ 1) (l2 : -1 ≤ l) (v1 : v ≤ K) (v2 : -K ≤ v) : l * v ≤ K ∧ -K ≤ l * v := by
  have K0 : 0 ≤ K := by grind
  rcases Rat.le_total (a := 0) (b := l) with h | h
  · have a := Rat.mul_le_mul_of_nonneg_left v1 h
    have b := Rat.mul_le_mul_of_nonneg_left v2 h
    have c := Rat.mul_le_mul_of_nonneg_right l1 K0
    constructor <;> grind
  · have a := Rat.mul_le_mul_of_nonneg_left v1 (show 0 ≤ -l by grind)
    have b := Rat.mul_le_mul_of_nonneg_left v2 (show 0 ≤ -l by grind)
    have c := Rat.mul_le_mul_of_nonneg_right (show -l ≤ 1 by grind) K0
    constructor <;> grind

theorem Bd.mul1 {l y : Nat} {k : Int} (hl : Bd l 1) (hy : Bd y (p2 k)) (hk : -1074 ≤ k) (hk2 : k ≤ 1000) : Bd (pf .mul l y) (p2 k) ∧ RN (val l * val y) (val (pf .mul l y)) := by
  have := abs_mul_le hl.2.1 hl.2.2 hy.2.1 hy.2.2
  exact bd_of (pf_mul hl.1 hy.1) hk hk2 this.1 this.2

theorem Bd.mono {x : Nat} {a b : Rat} (h : Bd x a) (hab : a ≤ b) : Bd x b := ⟨h.1, by have := h.2; grind, by have := h.2; grind⟩

theorem val_absF {x : Nat} : (0 ≤ val x → val (absF x) = val x) ∧ (val x ≤ 0 → val (absF x) = - val x) := by
  have e1 : sgb (absF x) = false := by
    unfold sgb absF
    have : x % 9223372036854775808 / 9223372036854775808 = 0 := by omega
    rw [this]; rfl
  have e2 : rung (absF x) = rung x := by unfold rung absF; rw [Nat.mod_mod]
  have h0 := mv_nonneg (rung x)
  unfold val
  rw [e1, e2, sv_false]
  cases sgb x
  · simp only [sv]
    constructor <;> intro h <;> simp at h ⊢ <;> grind
  · simp only [sv]
    constructor <;> intro h <;> simp at h ⊢ <;> grind

/-- the order of magnitudes -/
theorem not_gt_abs {x y : Nat} (hx : Fl.Fin x) (hy : Fl.Fin y) (h : gtF (absF x) (absF y) = false) : val (absF x) ≤ val (absF y) := by
  rw [gt_order (fin_absF hx) (fin_absF hy)] at h
  have := of_decide_eq_false h; grind
theorem gt_abs {x y : Nat} (hx : Fl.Fin x) (hy : Fl.Fin y) (h : gtF (absF x) (absF y) = true) : val (absF y) < val (absF x) := by
  rw [gt_order (fin_absF hx) (fin_absF hy)] at h
  exact of_decide_eq_true h

theorem abs_val (x : Nat) : 0 ≤ val (absF x) ∧ val x ≤ val (absF x) ∧ -val (absF x) ≤ val x ∧ (val (absF x) = val x ∨ val (absF x) = - val x) := by
  have h := @val_absF x
  rcases Rat.le_total (a := 0) (b := val x) with h1 | h1
  · rw [h.1 h1]; grind
  · rw [h.2 h1]; grind

/-- the multiplier is at most 1 -/
theorem quo_le_one {n c l : Rat} (hc : c ≠ 0) (h1 : n ≤ (if c < 0 then -c else c)) (h2 : -(if c < 0 then -c else c) ≤ n) (hl : l = n / c) : l ≤ 1 ∧ -1 ≤ l := by
  have e : l * c = n := by rw [hl]; grind
  clear hl
  by_cases h : c < 0
  · rw [if_pos h] at h1 h2
    constructor
    · rcases Rat.le_total (a := l) (b := 1) with h3 | h3
      · exact h3
      · have := Rat.mul_le_mul_of_nonneg_right h3 (show 0 ≤ -c by grind)
        by_cases h4 : l = 1
        · grind
        · have := Rat.mul_lt_mul_of_pos_right (show 1 < l by grind) (show 0 < -c by grind)
          exfalso; grind
    · rcases Rat.le_total (a := -1) (b := l) with h3 | h3
      · exact h3
      · by_cases h4 : l = -1
        · grind
        · have := Rat.mul_lt_mul_of_pos_right (show l < -1 by grind) (show 0 < -c by grind)
          exfalso; grind
  · rw [if_neg h] at h1 h2
    constructor
    · rcases Rat.le_total (a := l) (b := 1) with h3 | h3
      · exact h3
      · by_cases h4 : l = 1
        · grind
        · have := Rat.mul_lt_mul_of_pos_right (show 1 < l by grind) (show 0 < c by grind)
          exfalso; grind
    · rcases Rat.le_total (a := -1) (b := l) with h3 | h3
      · exact h3
      · by_cases h4 : l = -1
        · grind
        · have := Rat.mul_lt_mul_of_pos_right (show l < -1 by grind) (show 0 < c by grind)
          exfalso; grind

/-- a pivot of 0 replaced -/
def pivF (ti c0 : Nat) : Nat := if zeroF c0 then ti else c0

theorem piv_facts {ti c0 n0 : Nat} {K : Rat} (ht : Bd ti K) (ht0 : val ti ≠ 0) (hc : Bd c0 K) (hn : Fl.Fin n0) (hle : val (absF n0) ≤ val (absF c0)) :
    Bd (pivF ti c0) K ∧ val (pivF ti c0) ≠ 0 ∧ Bd (pf .quo n0 (pivF ti c0)) 1 := by
  have hp1 : p2 0 = 1 := p2_zero
  have an := abs_val n0
  have ac := abs_val c0
  unfold pivF
  by_cases hz : val c0 = 0
  · rw [zero_order hc.1, decide_eq_true hz, if_pos rfl]
    refine ⟨ht, ht0, ?_⟩
    have n0z : val n0 = 0 := by grind
    have hq := pf_quo hn ht.1 ht0
    rw [n0z] at hq
    have z3 : (0 : Rat) / val ti = 0 := by rw [Rat.div_def, Rat.zero_mul]
    rw [z3] at hq
    have := (bd_of hq (k := 0) (by omega) (by omega) (by rw [hp1]; grind) (by rw [hp1]; grind)).1
    rw [hp1] at this; exact this
  · rw [zero_order hc.1, decide_eq_false hz, if_neg (by decide)]
    refine ⟨hc, hz, ?_⟩
    have hq := pf_quo hn hc.1 hz
    have l1 := quo_le_one (n := val n0) (c := val c0) hz (by split <;> grind) (by split <;> grind) rfl
    have := (bd_of hq (k := 0) (by omega) (by omega) (by rw [hp1]; grind) (by rw [hp1]; grind)).1
    rw [hp1] at this; exact this


/-- the input is bounded -/
structure Inp (al of : List Nat) (th m : Nat) : Prop where
  al : ∀ i, i < m → Bd (al.getD i 0) (p2 24)
  of : ∀ i, i + 1 < m → Bd (of.getD i 0) (p2 24)
  th : Bd th (p2 26)

/-- what holds of the factor ahead of round k -/
structure InvS (s : St) (k : Nat) : Prop where
  c0 : Bd s.c0 (p2 28)
  c1 : Bd s.c1 (p2 24)
  c2 : s.c2 = 0
  u : ∀ j, j < k → Bd (s.u0.getD j 0) (p2 28) ∧ val (s.u0.getD j 0) ≠ 0 ∧ Bd (s.u1.getD j 0) (p2 27) ∧ Bd (s.u2.getD j 0) (p2 24)

theorem p2_nums : p2 24 = 16777216 ∧ p2 26 = 67108864 ∧ p2 27 = 134217728 ∧ p2 28 = 268435456 := by
  refine ⟨?_, ?_, ?_, ?_⟩
  · rw [show (24 : Int) = ((24 : Nat) : Int) from rfl, p2_nat]; rfl
  · rw [show (26 : Int) = ((26 : Nat) : Int) from rfl, p2_nat]; rfl
  · rw [show (27 : Int) = ((27 : Nat) : Int) from rfl, p2_nat]; rfl
  · rw [show (28 : Int) = ((28 : Nat) : Int) from rfl, p2_nat]; rfl

theorem bd_zero {K : Rat} (h : 0 ≤ K) : Bd 0 K := ⟨fin_zero, by rw [val_zero]; exact h, by rw [val_zero]; grind⟩

theorem getD_set_self {xs : List Nat} {i v : Nat} (h : i < xs.length) : (xs.set i v).getD i 0 = v := by
  rw [List.getD_eq_getElem?_getD, List.getElem?_set_self h]; rfl
theorem getD_set_ne {xs : List Nat} {i j v : Nat} (h : i ≠ j) : (xs.set i v).getD j 0 = xs.getD j 0 := by
  rw [List.getD_eq_getElem?_getD, List.getElem?_set_ne h, ← List.getD_eq_getElem?_getD]

theorem mul_zero_val {l z : Nat} (hl : Bd l 1) (hz : Fl.Fin z) (h0 : val z = 0) : Fl.Fin (pf .mul l z) ∧ val (pf .mul l z) = 0 := by
  have h := pf_mul hl.1 hz
  rw [h0, Rat.mul_zero] at h
  have p := p2_pos 1000
  obtain ⟨f, r⟩ := h.small (by grind) (by grind)
  exact ⟨f, r.eq rn_zero⟩

/-- one step of the elimination: the new row, and the multiplier -/
theorem elim_inv {i ti c0 c1 c2 n0 n1 n2 k : Nat} {b u0 u1 u2 : List Nat} (ht : Bd ti (p2 28)) (ht0 : val ti ≠ 0)
    (hc0 : Bd c0 (p2 28)) (hn0 : Fl.Fin n0) (hle : val (absF n0) ≤ val (absF c0))
    (h01 : (Bd c1 (p2 24) ∧ Bd n1 (p2 27)) ∨ (Bd c1 (p2 27) ∧ Bd n1 (p2 24)))
    (h2 : (c2 = 0 ∧ Bd n2 (p2 24)) ∨ (n2 = 0 ∧ Bd c2 (p2 24)))
    (hk : i = k) (l0 : i < u0.length) (l1 : i < u1.length) (l2 : i < u2.length)
    (hu : ∀ j, j < k → Bd (u0.getD j 0) (p2 28) ∧ val (u0.getD j 0) ≠ 0 ∧ Bd (u1.getD j 0) (p2 27) ∧ Bd (u2.getD j 0) (p2 24)) :
    InvS (elim i ti c0 c1 c2 n0 n1 n2 b u0 u1 u2) (k + 1) := by
  obtain ⟨n24, n26, n27, n28⟩ := p2_nums
  obtain ⟨hp, hp0, hl⟩ := piv_facts ht ht0 hc0 hn0 hle
  have c1b : Bd c1 (p2 27) := by
    rcases h01 with h | h
    · exact h.1.mono (by rw [n24, n27]; grind)
    · exact h.1
  have c2b : Bd c2 (p2 24) := by
    rcases h2 with ⟨h, _⟩ | ⟨_, h⟩
    · rw [h]; exact bd_zero (by rw [n24]; grind)
    · exact h
  have e0 : (elim i ti c0 c1 c2 n0 n1 n2 b u0 u1 u2).c0 = pf .sub n1 (pf .mul (pf .quo n0 (pivF ti c0)) c1) := rfl
  have e1 : (elim i ti c0 c1 c2 n0 n1 n2 b u0 u1 u2).c1 = pf .sub n2 (pf .mul (pf .quo n0 (pivF ti c0)) c2) := rfl
  constructor
  · rw [e0]
    rcases h01 with ⟨ha, hb⟩ | ⟨ha, hb⟩
    · exact (hb.sub (Bd.mul1 hl ha (by omega) (by omega)).1 (by omega) (by omega) (by rw [n24, n27, n28]; grind)).1
    · exact (hb.sub (Bd.mul1 hl ha (by omega) (by omega)).1 (by omega) (by omega) (by rw [n24, n27, n28]; grind)).1
  · rw [e1]
    rcases h2 with ⟨ha, hb⟩ | ⟨ha, hb⟩
    · obtain ⟨f, v⟩ := mul_zero_val hl (show Fl.Fin c2 by rw [ha]; exact fin_zero) (by rw [ha]; exact val_zero)
      exact (bd_of (pf_sub hb.1 f) (by omega) (by omega) (by rw [v]; have := hb.2; grind) (by rw [v]; have := hb.2; grind)).1
    · have hm := (Bd.mul1 hl hb (by omega) (by omega)).1
      have f0 : Fl.Fin n2 := by rw [ha]; exact fin_zero
      have v0 : val n2 = 0 := by rw [ha]; exact val_zero
      exact (bd_of (pf_sub f0 hm.1) (by omega) (by omega) (by rw [v0]; have := hm.2; grind) (by rw [v0]; have := hm.2; grind)).1
  · rfl
  · intro j hj
    have f0 : (elim i ti c0 c1 c2 n0 n1 n2 b u0 u1 u2).u0 = u0.set i (pivF ti c0) := rfl
    have f1 : (elim i ti c0 c1 c2 n0 n1 n2 b u0 u1 u2).u1 = u1.set i c1 := rfl
    have f2 : (elim i ti c0 c1 c2 n0 n1 n2 b u0 u1 u2).u2 = u2.set i c2 := rfl
    rw [f0, f1, f2]
    by_cases e : i = j
    · subst e
      rw [getD_set_self l0, getD_set_self l1, getD_set_self l2]
      exact ⟨hp, hp0, c1b, c2b⟩
    · rw [getD_set_ne e, getD_set_ne e, getD_set_ne e]
      exact hu j (by omega)

/-- the pieces of one round: which row is the pivot's -/
structure Piece (al of : List Nat) (th ti m k : Nat) (s : St) where
  (c0 c1 c2 n0 n1 n2 : Nat)
  b : List Nat
  eq : round al of th ti m k s = elim k ti c0 c1 c2 n0 n1 n2 b s.u0 s.u1 s.u2
  hb : b = s.b ∨ b = swapAt s.b k
  fc0 : Bd c0 (p2 28)
  fn0 : Fl.Fin n0
  le : val (absF n0) ≤ val (absF c0)
  h01 : (Bd c1 (p2 24) ∧ Bd n1 (p2 27)) ∨ (Bd c1 (p2 27) ∧ Bd n1 (p2 24))
  h2 : (c2 = 0 ∧ Bd n2 (p2 24)) ∨ (n2 = 0 ∧ Bd c2 (p2 24))

theorem piece_ex {al of : List Nat} {th ti m k : Nat} {s : St} (H : Inp al of th m) (hk : k + 1 < m) (hs : InvS s k) : Nonempty (Piece al of th ti m k s) := by
  obtain ⟨n24, n26, n27, n28⟩ := p2_nums
  have hy := H.of k hk
  have hx := H.al (k + 1) hk
  have h1 : Bd (nx1 al th k) (p2 27) := (hx.sub H.th (by omega) (by omega) (by rw [n24, n26, n27]; grind)).1
  have h2 : Bd (nx2 of m k) (p2 24) := by
    unfold nx2; split
    · rename_i h; exact H.of (k + 1) (by omega)
    · exact bd_zero (by rw [n24]; grind)
  cases hsw : gtF (absF (nx0 of k)) (absF s.c0)
  · refine ⟨⟨s.c0, s.c1, s.c2, nx0 of k, nx1 al th k, nx2 of m k, s.b, ?_, Or.inl rfl, hs.c0, hy.1, not_gt_abs hy.1 hs.c0.1 hsw, Or.inl ⟨hs.c1, h1⟩, Or.inl ⟨hs.c2, h2⟩⟩⟩
    unfold round; rw [hsw, if_neg (by decide)]
  · refine ⟨⟨nx0 of k, nx1 al th k, nx2 of m k, s.c0, s.c1, s.c2, swapAt s.b k, ?_, Or.inr rfl, hy.mono (by rw [n24, n28]; grind), hs.c0.1, Rat.le_of_lt (gt_abs hy.1 hs.c0.1 hsw), Or.inr ⟨h1, hs.c1⟩, Or.inr ⟨hs.c2, h2⟩⟩⟩
    unfold round; rw [hsw, if_pos rfl]

theorem round_inv {al of : List Nat} {th ti m k n : Nat} {s : St} (H : Inp al of th m) (ht : Bd ti (p2 28)) (ht0 : val ti ≠ 0) (hk : k + 1 < m) (hs : InvS s k) (hl : Lens s n m) : InvS (round al of th ti m k s) (k + 1) := by
  obtain ⟨P⟩ := piece_ex (ti := ti) H hk hs
  rw [P.eq]
  exact elim_inv ht ht0 P.fc0 P.fn0 P.le P.h01 P.h2 rfl (by rw [hl.2.1]; omega) (by rw [hl.2.2.1]; omega) (by rw [hl.2.2.2]; omega) hs.u

theorem start_inv {al of : List Nat} {th m : Nat} {b : List Nat} (H : Inp al of th m) (hm : 1 ≤ m) : InvS (start al of th m b) 0 := by
  obtain ⟨n24, n26, n27, n28⟩ := p2_nums
  constructor
  · exact ((H.al 0 (by omega)).sub H.th (by omega) (by omega) (by rw [n24, n26, n28]; grind)).1
  · show Bd (if 1 < m then of.getD 0 0 else 0) _
    split
    · exact H.of 0 (by omega)
    · exact bd_zero (by rw [n24]; grind)
  · rfl
  · intro j hj; omega

theorem rounds_inv {al of : List Nat} {th ti m : Nat} {b : List Nat} (H : Inp al of th m) (hm : 1 ≤ m) (ht : Bd ti (p2 28)) (ht0 : val ti ≠ 0) (k : Nat) (hk : k < m) :
    InvS (rounds al of th ti m (start al of th m b) k) k := by
  induction k with
  | zero => exact start_inv H hm
  | succ k ih => exact round_inv H ht ht0 hk (ih (by omega)) (rounds_lens (start_lens al of th m b) k)

end Go.Proofs.Qxb6605993a
