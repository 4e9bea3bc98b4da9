/- One row: where the bisection ends. -/
import Derived.Test.Qxb6605993aSgnB
namespace Go.Proofs.Qxb6605993a
open Ieee Fl

theorem aV_mv (x : Nat) : aV x = mv (rung x) := by
  have h := aV_facts x
  have m := mv_nonneg (rung x)
  rcases mv_abs x with ⟨e, _⟩ | ⟨e, _⟩ <;> grind

/-- a number that is not tiny, as a whole number of small units -/
theorem int_mult {x : Nat} {p : Int} (h : Fl.Fin x) (hp : p2 (52 + p) ≤ aV x) : ∃ n : Int, val x = (n : Rat) * p2 p := by
  rw [aV_mv] at hp
  obtain ⟨n, hn⟩ := mult h hp
  rcases mv_abs x with ⟨e, _⟩ | ⟨e, _⟩
  · exact ⟨(n : Int), by rw [e, hn]; rfl⟩
  · refine ⟨-(n : Int), ?_⟩
    rw [e, hn, Rat.intCast_neg]
    have : ((n : Int) : Rat) = (n : Rat) := rfl
    rw [this]; grind
theorem int_far {a b : Int} {g : Rat} (hg : 0 < g) (h : a ≠ b) : AbsGe ((a : Rat) * g - (b : Rat) * g) g := by
  have key : ∀ a b : Int, a + 1 ≤ b → (a : Rat) * g + g ≤ (b : Rat) * g := by
    intro a b h
    have h1 : ((a + 1 : Int) : Rat) ≤ (b : Rat) := Rat.intCast_le_intCast.2 h
    rw [Rat.intCast_add, show ((1 : Int) : Rat) = 1 from rfl] at h1
    have := Rat.mul_le_mul_of_nonneg_right h1 (Rat.le_of_lt hg)
    grind
  rcases Int.lt_or_gt_of_ne h with h1 | h1
  · have := key a b h1
    right; grind
  · have := key b a h1
    left; grind

theorem far_or_eq {x y : Nat} (fx : Fl.Fin x) (fy : Fl.Fin y) (hx : p2 (-300) ≤ aV x) : val x = val y ∨ AbsGe (val x - val y) (p2 (-360)) := by
  have h3 : p2 (-300) = 2 * p2 (-301) := by have := p2_half (-301); rwa [show (-301 + 1 : Int) = -300 by rfl] at this
  have p1 := p2_pos (-301)
  have q1 := p2_mono (show (-360 : Int) ≤ -353 by omega)
  have q2 := p2_mono (show (-360 : Int) ≤ -301 by omega)
  by_cases hy : p2 (-301) ≤ aV y
  · obtain ⟨a, ha⟩ := int_mult (p := -353) fx (by show p2 (-301) ≤ _; grind)
    obtain ⟨b, hb⟩ := int_mult (p := -353) fy (by show p2 (-301) ≤ _; exact hy)
    by_cases e : a = b
    · left; rw [ha, hb, e]
    · right
      rw [ha, hb]
      exact (int_far (p2_pos _) e).mono q1
  · right
    have a1 := aV_facts x
    have a2 := aV_facts y
    unfold AbsGe
    grind

/-! ### a diagonal entry that is tiny -/
theorem rn_one_up : RN (1 + p2 (-100)) 1 := by
  obtain ⟨f, v⟩ := val_pow (w := 4156822456062967808) 922 (-100) (by omega) rfl (by omega)
  have q := pf_add fin_one f
  rw [val_one, v] at q
  have e : pf .add 4607182418800017408 4156822456062967808 = 4607182418800017408 := by decide +kernel
  rw [e] at q
  have big := nums.2.2
  have h1 := p2_mono (show (-100 : Int) ≤ 0 by omega)
  rw [p2_zero] at h1
  have h0 := p2_pos (-100)
  have := (q.small (by grind) (by grind)).2
  rw [val_one] at this
  exact this
theorem rn_one_dn : RN (1 - p2 (-100)) 1 := by
  obtain ⟨f, v⟩ := val_pow (w := 4156822456062967808) 922 (-100) (by omega) rfl (by omega)
  have q := pf_sub fin_one f
  rw [val_one, v] at q
  have e : pf .sub 4607182418800017408 4156822456062967808 = 4607182418800017408 := by decide +kernel
  rw [e] at q
  have big := nums.2.2
  have h1 := p2_mono (show (-100 : Int) ≤ 0 by omega)
  rw [p2_zero] at h1
  have h0 := p2_pos (-100)
  have := (q.small (by grind) (by grind)).2
  rw [val_one] at this
  exact this
theorem rn_near_one {r v : Rat} (h : RN r v) (h1 : r ≤ 1 + p2 (-100)) (h2 : 1 - p2 (-100) ≤ r) : v = 1 := by
  have a := h.mono rn_one_up h1
  have b := rn_one_dn.mono h h2
  grind

section
variable {al be : List Nat}

theorem ends1 (H : InpB al be 1) (h : aV (al.getD 0 0) < p2 (-300)) : val (lo0F al be 1) = -1 ∧ val (hi0F al be 1) = 1 := by
  have hA := H.al 0 (by omega)
  have a := aV_facts (al.getD 0 0)
  have p100 := p2_mono (show (-300 : Int) ≤ -100 by omega)
  have rd : radF be 1 0 = 0 := by
    unfold radF rad1
    rw [if_neg (by omega), if_neg (by omega)]
  have hs := pf_sub hA.1 fin_zero
  have ha := pf_add hA.1 fin_zero
  rw [val_zero] at hs ha
  rw [show val (al.getD 0 0) - 0 = val (al.getD 0 0) by grind] at hs
  rw [show val (al.getD 0 0) + 0 = val (al.getD 0 0) by grind] at ha
  have A2 := hA.2
  rw [nums.1] at A2
  have big := nums.2.2
  obtain ⟨fs, rs⟩ := hs.small (by grind) (by grind)
  obtain ⟨fa, ra⟩ := ha.small (by grind) (by grind)
  have es := rs.eq (rn_val _)
  have ea := ra.eq (rn_val _)
  have gl : Eqv (gLo al be 1 1) (val (al.getD 0 0)) := by
    show Eqv (minW (al.getD 0 0) (pf .sub (al.getD 0 0) (radF be 1 0))) _
    rw [rd]
    rcases (min_facts hA.1 fs).1 with e | e <;> rw [e]
    · exact ⟨hA.1, rfl⟩
    · exact ⟨fs, es⟩
  have gh : Eqv (gHi al be 1 1) (val (al.getD 0 0)) := by
    show Eqv (maxW (al.getD 0 0) (pf .add (al.getD 0 0) (radF be 1 0))) _
    rw [rd]
    rcases (max_facts hA.1 fa).1 with e | e <;> rw [e]
    · exact ⟨hA.1, rfl⟩
    · exact ⟨fa, ea⟩
  have ql := pf_sub gl.1 fin_one
  have qh := pf_add gh.1 fin_one
  rw [gl.2, val_one] at ql
  rw [gh.2, val_one] at qh
  obtain ⟨_, rl⟩ := ql.small (by grind) (by grind)
  obtain ⟨_, rh⟩ := qh.small (by grind) (by grind)
  constructor
  · have := rn_near_one rl.neg (by grind) (by grind)
    show val (pf .sub (gLo al be 1 1) 4607182418800017408) = -1
    grind
  · exact rn_near_one rh (by grind) (by grind)

theorem quo_half {T : Nat} (ft : Fl.Fin T) (h1 : p2 (-100) ≤ val T) (h2 : val T ≤ 4) : Eqv (pf .quo T 4611686018427387904) (val T / 2) := by
  obtain ⟨f2, v2⟩ := val_pow (w := 4611686018427387904) 1023 1 (by omega) rfl (by omega)
  have v2' : val 4611686018427387904 = 2 := by rw [v2, p2_53.2.1]
  have q := pf_quo ft f2 (by rw [v2']; grind)
  rw [v2'] at q
  have p0 := p2_pos (-100)
  have hs : p2 (-500) ≤ mv (rung T) := by
    rw [← val_pos_mv (by grind)]
    have := p2_mono (show (-500 : Int) ≤ -100 by omega)
    grind
  have hh1 : p2 (-1) = 1 / 2 := by
    have : p2 (-1) * p2 1 = 1 := by rw [← p2_add]; exact p2_zero
    rw [p2_53.2.1] at this; grind
  have r := scale_rn ft hs (k := -1) (by omega)
  rw [hh1, show (1 : Rat) / 2 * val T = val T / 2 by grind] at r
  have big := nums.2.2
  exact exact_of q rfl r (by grind) (by grind)
/-- half of a number, rounded -/
theorem half_rn {x : Nat} (fx : Fl.Fin x) (h : p2 (-100) ≤ aV x) : RN (val x / 2) (val x / 2) := by
  have hh1 : p2 (-1) = 1 / 2 := by
    have : p2 (-1) * p2 1 = 1 := by rw [← p2_add]; exact p2_zero
    rw [p2_53.2.1] at this; grind
  have r := scale_rn fx (k := -1) (by
    rw [← aV_mv]
    have := p2_mono (show (-500 : Int) ≤ -100 by omega)
    grind) (by omega)
  rw [hh1, show (1 : Rat) / 2 * val x = val x / 2 by grind] at r
  exact r

theorem mid_left {lo hi : Nat} (fl : Fl.Fin lo) (fh : Fl.Fin hi) (h0 : val hi = 0) (h1 : val lo ≤ -p2 (-60)) (h2 : -2 ≤ val lo) :
    Eqv (pf .sub hi lo) (-val lo) ∧ Eqv (midF lo hi) (val lo / 2) := by
  have p60 := p2_pos (-60)
  have p100 := p2_mono (show (-100 : Int) ≤ -60 by omega)
  have big := nums.2.2
  have q := pf_sub fh fl
  rw [h0] at q
  have eT : Eqv (pf .sub hi lo) (-val lo) := exact_of q (by grind) (rn_val lo).neg (by grind) (by grind)
  have hf := quo_half eT.1 (by rw [eT.2]; grind) (by rw [eT.2]; grind)
  rw [eT.2] at hf
  have q2 := pf_add fl hf.1
  rw [hf.2] at q2
  have a := aV_facts lo
  refine ⟨eT, exact_of q2 (by grind) (half_rn fl (by grind)) (by grind) (by grind)⟩
theorem mid_right {lo hi : Nat} (fl : Fl.Fin lo) (fh : Fl.Fin hi) (h0 : val lo = 0) (h1 : p2 (-60) ≤ val hi) (h2 : val hi ≤ 2) :
    Eqv (pf .sub hi lo) (val hi) ∧ Eqv (midF lo hi) (val hi / 2) := by
  have p60 := p2_pos (-60)
  have p100 := p2_mono (show (-100 : Int) ≤ -60 by omega)
  have big := nums.2.2
  have q := pf_sub fh fl
  rw [h0] at q
  have eT : Eqv (pf .sub hi lo) (val hi) := exact_of q (by grind) (rn_val hi) (by grind) (by grind)
  have hf := quo_half eT.1 (by rw [eT.2]; grind) (by rw [eT.2]; grind)
  rw [eT.2] at hf
  have q2 := pf_add fl hf.1
  rw [hf.2, h0] at q2
  have a := aV_facts hi
  refine ⟨eT, exact_of q2 (by grind) (half_rn fh (by grind)) (by grind) (by grind)⟩

def State1 (lo hi : Nat) : Prop := (val lo = -1 ∧ val hi = 1) ∨ (val hi = 0 ∧ val lo ≤ -p2 (-60)) ∨ (val lo = 0 ∧ p2 (-60) ≤ val hi)

theorem first_pivot (H : InpB al be 1) {x : Nat} (hx : Bd x 50331649) : (p2 (-70) ≤ val (al.getD 0 0) - val x → cntF al be x 1 = 0) ∧ (val (al.getD 0 0) - val x ≤ -p2 (-70) → cntF al be x 1 = 1) := by
  obtain ⟨_, _, c⟩ := raw_ok H hx 0 (by omega)
  have r : RN (val (al.getD 0 0) - val x) (val (rawF al be x 0)) := (sub_x H hx (show 0 < 1 by omega)).2
  have T := TV_facts
  have t70 := p2_lt (show (-963 : Int) < -70 by omega)
  have r70 := rn_p2 (-70) (by omega)
  constructor
  · intro h
    have := r70.mono r h
    rw [pos_iff H hx 1 (Nat.le_refl _)]
    intro i hi
    obtain rfl : i = 0 := by omega
    unfold Clamp at c
    grind
  · intro h
    have := r.mono r70.neg h
    rw [neg_iff H hx 1 (Nat.le_refl _)]
    intro i hi
    obtain rfl : i = 0 := by omega
    unfold Clamp at c
    grind

theorem eps1 (H : InpB al be 1) (h : aV (al.getD 0 0) < p2 (-300)) : Eqv (epsF al be 1) (p2 (-52)) := by
  obtain ⟨e1, e2⟩ := ends1 H h
  have E := eps_val H
  have M : MV al be 1 = 1 := by
    obtain ⟨fM, M1, M2, M3, M4, _⟩ := MV_facts H
    unfold MV at *
    have al' := abs_val (lo0F al be 1)
    have ah' := abs_val (hi0F al be 1)
    rcases (max_facts (fin_absF (lo0_facts H).1.1) (fin_absF (hi0_facts H).1.1)).1 with e | e <;> rw [e] at * <;> grind
  rw [M, Rat.mul_one] at E
  exact E

theorem reach1 (H : InpB al be 1) (h : aV (al.getD 0 0) < p2 (-300)) {lo hi : Nat} (r : Reach al be 1 0 lo hi) : State1 lo hi ∧ -2 ≤ val lo ∧ val hi ≤ 2 := by
  obtain ⟨e1, e2⟩ := ends1 H h
  have E := eps1 H h
  have a := aV_facts (al.getD 0 0)
  have l3 := p2_mono (show (-300 : Int) ≤ -71 by omega)
  have l70 : p2 (-70) = 2 * p2 (-71) := by have := p2_half (-71); rwa [show (-71 + 1 : Int) = -70 by rfl] at this
  have l60 := p2_mono (show (-69 : Int) ≤ -54 by omega)
  have l69 : p2 (-69) = 2 * p2 (-70) := by have := p2_half (-70); rwa [show (-70 + 1 : Int) = -69 by rfl] at this
  have l6 := p2_mono (show (-60 : Int) ≤ -54 by omega)
  have l53 : p2 (-53) = 2 * p2 (-54) := by have := p2_half (-54); rwa [show (-54 + 1 : Int) = -53 by rfl] at this
  have l52 : p2 (-52) = 2 * p2 (-53) := p2_53_52
  have p71 := p2_pos (-71)
  have p54 := p2_pos (-54)
  have bounds : ∀ {lo hi : Nat}, Reach al be 1 0 lo hi → -2 ≤ val lo ∧ val hi ≤ 2 := by
    intro lo hi r
    have I := reach_inv H r
    have := I.l0
    have := I.h0
    grind
  refine ⟨?_, bounds r⟩
  have big := nums.2.2
  -- the first midpoint
  have mid1 : ∀ {lo hi : Nat}, Fl.Fin lo → Fl.Fin hi → val lo = -1 → val hi = 1 → Eqv (midF lo hi) 0 := by
    intro lo hi fl fh h1 h2
    have q := pf_sub fh fl
    rw [h1, h2] at q
    have r2 := rn_p2 1 (by omega)
    rw [p2_53.2.1] at r2
    have eT := exact_of (v := 2) q (by grind) r2 (by grind) (by grind)
    have p100 := p2_mono (show (-100 : Int) ≤ 0 by omega)
    rw [p2_zero] at p100
    have hf := quo_half eT.1 (by rw [eT.2]; grind) (by rw [eT.2]; grind)
    rw [eT.2] at hf
    have q2 := pf_add fl hf.1
    rw [hf.2, h1] at q2
    exact exact_of q2 (by grind) rn_zero (by grind) (by grind)
  induction r with
  | start => exact Or.inl ⟨e1, e2⟩
  | @left lo hi hr g c ih =>
    have I := reach_inv H hr
    have B := bounds hr
    obtain ⟨_, bm, _⟩ := strict H I g
    rcases ih with ⟨i1, i2⟩ | ⟨i1, i2⟩ | ⟨i1, i2⟩
    · have m := mid1 I.blo.1 I.bhi.1 i1 i2
      exact Or.inr (Or.inl ⟨m.2, by rw [i1]; have := one_p2; have := p2_mono (show (-60 : Int) ≤ 0 by omega); grind⟩)
    · exfalso
      obtain ⟨eT, m⟩ := mid_left I.blo.1 I.bhi.1 i1 i2 B.1
      rw [gt_order eT.1 E.1, eT.2, E.2] at g
      have g := of_decide_eq_true g
      have := (first_pivot H bm).1 (by rw [m.2]; grind)
      omega
    · obtain ⟨eT, m⟩ := mid_right I.blo.1 I.bhi.1 i1 i2 B.2
      rw [gt_order eT.1 E.1, eT.2, E.2] at g
      have g := of_decide_eq_true g
      exact Or.inr (Or.inr ⟨i1, by rw [m.2]; grind⟩)
  | @right lo hi hr g c ih =>
    have I := reach_inv H hr
    have B := bounds hr
    obtain ⟨_, bm, _⟩ := strict H I g
    rcases ih with ⟨i1, i2⟩ | ⟨i1, i2⟩ | ⟨i1, i2⟩
    · have m := mid1 I.blo.1 I.bhi.1 i1 i2
      exact Or.inr (Or.inr ⟨m.2, by rw [i2]; have := one_p2; have := p2_mono (show (-60 : Int) ≤ 0 by omega); grind⟩)
    · obtain ⟨eT, m⟩ := mid_left I.blo.1 I.bhi.1 i1 i2 B.1
      rw [gt_order eT.1 E.1, eT.2, E.2] at g
      have g := of_decide_eq_true g
      exact Or.inr (Or.inl ⟨i1, by rw [m.2]; grind⟩)
    · exfalso
      obtain ⟨eT, m⟩ := mid_right I.blo.1 I.bhi.1 i1 i2 B.2
      rw [gt_order eT.1 E.1, eT.2, E.2] at g
      have g := of_decide_eq_true g
      have := (first_pivot H bm).2 (by rw [m.2]; grind)
      omega

/-- of one row: the answer is the entry itself, or not too near it -/
theorem gap1 (H : InpB al be 1) {th : Nat} (A : Answer al be 1 0 th) (fth : Fl.Fin th) : val (al.getD 0 0) = val th ∨ AbsGe (val (al.getD 0 0) - val th) (p2 (-360)) := by
  by_cases h : p2 (-300) ≤ aV (al.getD 0 0)
  · exact far_or_eq (H.al 0 (by omega)).1 fth h
  · right
    have h' : aV (al.getD 0 0) < p2 (-300) := by grind
    obtain ⟨lo, hi, r, g, rfl⟩ := A
    have I := reach_inv H r
    obtain ⟨S, B1, B2⟩ := reach1 H h' r
    have E := eps1 H h'
    have a := aV_facts (al.getD 0 0)
    have l61 : p2 (-60) = 2 * p2 (-61) := by have := p2_half (-61); rwa [show (-61 + 1 : Int) = -60 by rfl] at this
    have l62 : p2 (-61) = 2 * p2 (-62) := by have := p2_half (-62); rwa [show (-62 + 1 : Int) = -61 by rfl] at this
    have l3 := p2_mono (show (-300 : Int) ≤ -62 by omega)
    have l4 := p2_mono (show (-360 : Int) ≤ -62 by omega)
    rcases S with ⟨i1, i2⟩ | ⟨i1, i2⟩ | ⟨i1, i2⟩
    · exfalso
      obtain ⟨ft, rt, t0⟩ := mids I
      rw [gt_order ft E.1, E.2] at g
      have g := of_decide_eq_false g
      have r2 := rn_p2 1 (by omega)
      rw [p2_53.2.1] at r2
      rw [i1, i2, show (1 : Rat) - -1 = 2 by grind] at rt
      have := rt.eq r2
      have := one_p2.2
      grind
    · obtain ⟨_, m⟩ := mid_left I.blo.1 I.bhi.1 i1 i2 B1
      unfold AbsGe
      rw [m.2]
      grind
    · obtain ⟨_, m⟩ := mid_right I.blo.1 I.bhi.1 i1 i2 B2
      unfold AbsGe
      rw [m.2]
      grind
end
end Go.Proofs.Qxb6605993a
