/- Each round of the bisection shortens its interval. -/
import Derived.Test.Qxb6605993aBisP
namespace Go.Proofs.Qxb6605993a
open Ieee Fl

section
variable {al of : List Nat} {m : Nat}

/-- the larger end, in magnitude -/
def MV (al of : List Nat) (m : Nat) : Rat := val (maxW (absF (lo0F al of m)) (absF (hi0F al of m)))

theorem MV_facts (H : InpB al of m) : Fl.Fin (maxW (absF (lo0F al of m)) (absF (hi0F al of m))) ∧ 9 / 10 ≤ MV al of m ∧ MV al of m ≤ 50331649 ∧ -MV al of m ≤ val (lo0F al of m) ∧ val (hi0F al of m) ≤ MV al of m ∧ val (lo0F al of m) + 1 < val (hi0F al of m) := by
  obtain ⟨bl, l1, l2⟩ := lo0_facts H
  obtain ⟨bh, h1, h2⟩ := hi0_facts H
  obtain ⟨_, g1, _⟩ := gLo_facts H m (Nat.le_refl _)
  obtain ⟨_, g2, _⟩ := gHi_facts H m (Nat.le_refl _)
  obtain ⟨e, m1, m2⟩ := max_facts (fin_absF bl.1) (fin_absF bh.1)
  have al' := abs_val (lo0F al of m)
  have ah' := abs_val (hi0F al of m)
  have lb := bl.2
  have hb := bh.2
  unfold MV
  refine ⟨?_, by grind, ?_, by grind, by grind, by grind⟩
  · rcases e with e | e <;> rw [e]
    · exact fin_absF bl.1
    · exact fin_absF bh.1
  · rcases e with e | e <;> rw [e] <;> grind

theorem val_pos_mv {x : Nat} (h : 0 < val x) : val x = mv (rung x) := by
  rcases mv_abs x with h1 | h1
  · exact h1.1
  · exfalso
    have := mv_nonneg (rung x)
    have := h1.1
    grind

theorem eps_val (H : InpB al of m) : Eqv (epsF al of m) (p2 (-52) * MV al of m) := by
  obtain ⟨f, m1, m2, _⟩ := MV_facts H
  have q := pf_mul fin_m52 f
  rw [val_m52] at q
  have hp : 0 < val (maxW (absF (lo0F al of m)) (absF (hi0F al of m))) := by unfold MV at m1; grind
  have hs : p2 (-500) ≤ mv (rung (maxW (absF (lo0F al of m)) (absF (hi0F al of m)))) := by
    rw [← val_pos_mv hp]
    have h1 := p2_mono (show (-500 : Int) ≤ -1 by omega)
    have h2 : p2 (-1) * p2 1 = 1 := by rw [← p2_add]; exact p2_zero
    rw [p2_53.2.1] at h2
    unfold MV at m1
    grind
  have r := scale_rn f hs (k := -52) (by omega)
  have p52 := p2_pos (-52)
  have h52 := one_p2.2
  have big := nums.2.2
  have h1 := Rat.mul_le_mul_of_nonneg_right h52 (show 0 ≤ MV al of m by grind)
  have h2 := Rat.mul_nonneg (Rat.le_of_lt p52) (show 0 ≤ MV al of m by grind)
  exact exact_of q rfl r (by unfold MV at *; grind) (by unfold MV at *; grind)

/-- what holds of each interval -/
structure InvB (al of : List Nat) (m lo hi : Nat) : Prop where
  blo : Bd lo 50331649
  bhi : Bd hi 50331649
  l0 : val (lo0F al of m) ≤ val lo
  h0 : val hi ≤ val (hi0F al of m)
  lt : val lo < val hi

/-- the subtraction is exact, or the interval is wide -/
theorem exact_or {lo hi : Nat} (fl : Fl.Fin lo) (fh : Fl.Fin hi) (h : val lo < val hi) :
    RN (val hi - val lo) (val hi - val lo) ∨ (val hi ≤ 2 * (val hi - val lo) ∧ -(2 * (val hi - val lo)) ≤ val lo) := by
  by_cases h1 : 0 < val lo
  · by_cases h2 : val hi ≤ 2 * val lo
    · exact Or.inl (sterbenz fl fh h1 (Rat.le_of_lt h) h2)
    · right; constructor <;> grind
  · by_cases h2 : val hi < 0
    · by_cases h3 : -val lo ≤ 2 * -val hi
      · left
        have e1 : val (absF hi) = - val hi := by have := abs_val hi; grind
        have e2 : val (absF lo) = - val lo := by have := abs_val lo; grind
        have := sterbenz (fin_absF fh) (fin_absF fl) (by grind) (by grind) (by grind)
        rw [e1, e2, show -val lo - -val hi = val hi - val lo by grind] at this
        exact this
      · right; constructor <;> grind
    · right; constructor <;> grind

theorem nat_lt_of {a b : Nat} {g : Rat} (hg : 0 < g) (h : (a : Rat) * g < (b : Rat) * g) : (a : Rat) * g + g ≤ (b : Rat) * g := by
  have h1 : a < b := by
    apply Classical.byContradiction
    intro hc
    have : (b : Rat) ≤ (a : Rat) := Rat.natCast_le_natCast.2 (by omega)
    have := Rat.mul_le_mul_of_nonneg_right this (Rat.le_of_lt hg)
    grind
  have h2 : ((a + 1 : Nat) : Rat) ≤ (b : Rat) := Rat.natCast_le_natCast.2 h1
  rw [Rat.natCast_add, show ((1 : Nat) : Rat) = 1 from rfl] at h2
  have := Rat.mul_le_mul_of_nonneg_right h2 (Rat.le_of_lt hg)
  grind

/-- the width, its half and the midpoint, of any interval -/
theorem mids {lo hi : Nat} (I : InvB al of m lo hi) :
    Fl.Fin (pf .sub hi lo) ∧ RN (val hi - val lo) (val (pf .sub hi lo)) ∧ 0 ≤ val (pf .sub hi lo) := by
  have hl := I.blo.2
  have hh := I.bhi.2
  have big := nums.2.2
  obtain ⟨f, rn⟩ := (pf_sub I.bhi.1 I.blo.1).small (by grind) (by grind)
  exact ⟨f, rn, rn.nonneg (by have := I.lt; grind)⟩

theorem strict (H : InpB al of m) {lo hi : Nat} (I : InvB al of m lo hi) (g : gtF (pf .sub hi lo) (epsF al of m) = true) :
    Eqv (pf .quo (pf .sub hi lo) 4611686018427387904) (val (pf .sub hi lo) / 2) ∧ Bd (midF lo hi) 50331649 ∧ val lo < val (midF lo hi) ∧ val (midF lo hi) < val hi := by
  obtain ⟨fM, M1, M2, M3, M4, _⟩ := MV_facts H
  obtain ⟨fe, ve⟩ := eps_val H
  obtain ⟨ft, rt, t0⟩ := mids I
  rw [gt_order ft fe] at g
  have hgt := of_decide_eq_true g
  clear g
  have e52 : p2 (-52) = 2 * p2 (-53) := by have := p2_half (-53); rwa [show (-53 + 1 : Int) = -52 by rfl] at this
  have e52M : p2 (-52) * MV al of m = 2 * (p2 (-53) * MV al of m) := by rw [e52, Rat.mul_assoc]
  rw [e52M] at ve
  rw [ve] at hgt
  have hl := I.blo.2
  have hh := I.bhi.2
  have l0 := I.l0
  have h0 := I.h0
  have lt := I.lt
  have big := nums.2.2
  obtain ⟨u1, u2, u3, u4, u5⟩ := u_nums
  have uP := p2_pos (-53)
  have uM := Rat.mul_le_mul_of_nonneg_left M1 (Rat.le_of_lt uP)
  have uM2 := Rat.mul_le_mul_of_nonneg_left M2 (Rat.le_of_lt uP)
  -- a gap between the width and eps
  have hgap : 2 * (p2 (-53) * MV al of m) + 2 * p2 (-107) ≤ val (pf .sub hi lo) := by
    have p53 : p2 (-53) = p2 (52 + -105) := by rfl
    have x1 := val_pos_mv (x := pf .sub hi lo) (by grind)
    have x2 := val_pos_mv (x := epsF al of m) (by rw [ve]; grind)
    obtain ⟨n1, hn1⟩ := mult (p := -105) ft (by rw [← p53, ← x1]; grind)
    obtain ⟨n2, hn2⟩ := mult (p := -105) fe (by rw [← p53, ← x2, ve]; grind)
    have := nat_lt_of (p2_pos (-105)) (a := n2) (b := n1) (by rw [← hn1, ← hn2, ← x1, ← x2, ve]; exact hgt)
    rw [← hn1, ← hn2, ← x1, ← x2, ve] at this
    have h5 := p2_mono (show (-106 : Int) ≤ -105 by omega)
    have h6 : p2 (-106) = 2 * p2 (-107) := by have := p2_half (-107); rwa [show (-107 + 1 : Int) = -106 by rfl] at this
    grind
  generalize hT : pf .sub hi lo = T at *
  -- the half
  obtain ⟨f2, v2⟩ := val_pow (w := 4611686018427387904) 1023 1 (by omega) rfl (by omega)
  have v2' : val 4611686018427387904 = 2 := by rw [v2, p2_53.2.1]
  have hh1 : p2 (-1) = 1 / 2 := by
    have : p2 (-1) * p2 1 = 1 := by rw [← p2_add]; exact p2_zero
    rw [p2_53.2.1] at this; grind
  have tpos : 0 < val T := by grind
  have half : Eqv (pf .quo T 4611686018427387904) (val T / 2) := by
    have q := pf_quo ft f2 (by rw [v2']; grind)
    rw [v2'] at q
    have hs : p2 (-500) ≤ mv (rung T) := by
      rw [← val_pos_mv tpos]
      have h1 := p2_mono (show (-500 : Int) ≤ -54 by omega)
      have h2 : p2 (-53) = 2 * p2 (-54) := by have := p2_half (-54); rwa [show (-54 + 1 : Int) = -53 by rfl] at this
      grind
    have r := scale_rn ft hs (k := -1) (by omega)
    rw [hh1, show (1 : Rat) / 2 * val T = val T / 2 by grind] at r
    have er := rt.err (b := 100663298) (by grind) (by grind)
    exact exact_of q rfl r (by grind) (by grind)
  -- the point before rounding
  have erT := rt.err (b := val hi - val lo) Rat.le_refl (by grind)
  have hW : p2 (-53) * (val hi - val lo) ≤ (1 / 1024) * (val hi - val lo) := Rat.mul_le_mul_of_nonneg_right (by grind) (by grind)
  have hWp := Rat.mul_nonneg (Rat.le_of_lt uP) (show 0 ≤ val hi - val lo by grind)
  have Wbig : p2 (-53) / 2 ≤ val hi - val lo := by grind
  have R1 : val lo + val T / 2 ≤ val hi := by grind
  have q := pf_add I.blo.1 half.1
  rw [half.2] at q
  obtain ⟨fm, rm⟩ := q.small (by grind) (by grind)
  have r3 := rn_repr 50331649 0 (by omega) (by omega)
  rw [p2_zero, Rat.mul_one, show ((50331649 : Nat) : Rat) = 50331649 from rfl] at r3
  have er := rm.err (b := MV al of m) (by grind) (by grind)
  have u6 : p2 (-1075) < p2 (-107) := p2_lt (by omega)
  have em : midF lo hi = pf .add lo (pf .quo T 4611686018427387904) := by unfold midF; rw [hT]
  rw [em]
  generalize pf .add lo (pf .quo T 4611686018427387904) = z at *
  refine ⟨half, ⟨fm, rm.mono r3 (by grind), r3.neg.mono rm (by grind)⟩, ?_, ?_⟩
  · grind
  · rcases exact_or I.blo.1 I.bhi.1 lt with hx | ⟨w1, w2⟩
    · have := rt.eq hx
      grind
    · have er2 := rm.err (b := 2 * (val hi - val lo)) (by grind) (by grind)
      grind

theorem reach_inv {k lo hi : Nat} (H : InpB al of m) (h : Reach al of m k lo hi) : InvB al of m lo hi := by
  induction h with
  | start =>
    have := MV_facts H
    exact ⟨(lo0_facts H).1, (hi0_facts H).1, Rat.le_refl, Rat.le_refl, by grind⟩
  | left h g c ih =>
    obtain ⟨_, b, s1, s2⟩ := strict H ih g
    exact ⟨ih.blo, b, ih.l0, by have := ih.h0; grind, s1⟩
  | right h g c ih =>
    obtain ⟨_, b, s1, s2⟩ := strict H ih g
    exact ⟨b, ih.bhi, by have := ih.l0; grind, ih.h0, s2⟩

/-- every finite number is a whole number of least units -/
theorem unit_int {x : Nat} (h : Fl.Fin x) : ∃ n : Int, val x = (n : Rat) * p2 (-1074) := by
  obtain ⟨c, q, _, hq, _, e', _⟩ := dec h
  obtain ⟨n, hn⟩ := p2_sub_nat q (-1074) hq
  have e : mv (rung x) = ((c * n : Nat) : Rat) * p2 (-1074) := by rw [e', hn, Rat.natCast_mul, Rat.mul_assoc]
  rcases mv_abs x with h1 | h1
  · exact ⟨((c * n : Nat) : Int), by rw [h1.1, e]; rfl⟩
  · refine ⟨-((c * n : Nat) : Int), ?_⟩
    rw [h1.1, e, Rat.intCast_neg]
    have : (((c * n : Nat) : Int) : Rat) = ((c * n : Nat) : Rat) := rfl
    rw [this]; grind

/-- how many least units the interval is wide -/
def gap (lo hi : Nat) : Nat := ((val hi - val lo) * p2 1074).floor.toNat

theorem gap_int {lo hi : Nat} {a b : Int} (h1 : val lo = (a : Rat) * p2 (-1074)) (h2 : val hi = (b : Rat) * p2 (-1074)) : gap lo hi = (b - a).toNat := by
  unfold gap
  have e : (val hi - val lo) * p2 1074 = ((b - a : Int) : Rat) := by
    have : p2 (-1074) * p2 1074 = 1 := by rw [← p2_add]; exact p2_zero
    rw [h1, h2, Rat.intCast_sub]; grind
  rw [e, Rat.floor_intCast]
theorem int_lt {a b : Int} (h : (a : Rat) * p2 (-1074) < (b : Rat) * p2 (-1074)) : a < b := by
  apply Classical.byContradiction
  intro hc
  have : (b : Rat) ≤ (a : Rat) := Rat.intCast_le_intCast.2 (by omega)
  have := Rat.mul_le_mul_of_nonneg_right this (Rat.le_of_lt (p2_pos (-1074)))
  grind

theorem gap_left {lo mid hi : Nat} (fl : Fl.Fin lo) (fm : Fl.Fin mid) (fh : Fl.Fin hi) (h1 : val lo < val mid) (h2 : val mid < val hi) : gap lo mid < gap lo hi ∧ gap mid hi < gap lo hi := by
  obtain ⟨a, ha⟩ := unit_int fl
  obtain ⟨b, hb⟩ := unit_int fm
  obtain ⟨c, hc⟩ := unit_int fh
  have l1 : a < b := int_lt (by rw [← ha, ← hb]; exact h1)
  have l2 : b < c := int_lt (by rw [← hb, ← hc]; exact h2)
  rw [gap_int ha hb, gap_int ha hc, gap_int hb hc]
  omega
end
end Go.Proofs.Qxb6605993a
