/- What the ends of the bisection say: for the largest eigenvalue (count m) and for the least (count 0). -/
import Derived.Test.Qxb6605993aSgn
namespace Go.Proofs.Qxb6605993a
open Ieee Fl

section
variable {al of : List Nat} {m : Nat}

/-- the first ends lie well outside every disc -/
theorem wide (H : InpB al of m) {i : Nat} (hi : i < m) :
    val (al.getD i 0) + ro1 of i + ro2 of m i + 9 / 10 ≤ val (hi0F al of m) ∧ val (lo0F al of m) ≤ val (al.getD i 0) - ro1 of i - ro2 of m i - 9 / 10 := by
  obtain ⟨_, l1, l2⟩ := lo0_facts H
  obtain ⟨_, h1, h2⟩ := hi0_facts H
  obtain ⟨_, _, g1⟩ := gLo_facts H m (Nat.le_refl _)
  obtain ⟨_, _, g2⟩ := gHi_facts H m (Nat.le_refl _)
  have g1 := g1 i hi
  have g2 := g2 i hi
  obtain ⟨⟨_, a1⟩, ⟨_, a2⟩⟩ := lows H hi
  obtain ⟨_, r1, r2, r3⟩ := rad_val H hi
  obtain ⟨u1, u2, u3, u4, u5⟩ := u_nums
  have b1 := ro1_facts H hi
  have b2 := ro2_facts H i
  have ha := (H.al i hi).2
  rw [nums.1] at ha
  have e1 := r1.err (b := 50331648) (by grind) (by grind)
  have e2 := a1.err (b := 50331648) (by grind) (by grind)
  have e3 := a2.err (b := 50331648) (by grind) (by grind)
  constructor <;> grind

theorem MV_wide (H : InpB al of m) {i : Nat} (hi : i < m) : val (al.getD i 0) + ro1 of i + ro2 of m i + 9 / 10 ≤ MV al of m ∧ - val (al.getD i 0) + ro1 of i + ro2 of m i + 9 / 10 ≤ MV al of m := by
  have := wide H hi
  have := MV_facts H
  constructor <;> grind

/-- the scale of the errors -/
def UM (al of : List Nat) (m : Nat) : Rat := p2 (-53) * MV al of m
theorem UM_facts (H : InpB al of m) : 0 < UM al of m ∧ UM al of m * 134217728 ≤ 1 ∧ p2 (-53) * (9 / 10) ≤ UM al of m := by
  obtain ⟨_, m1, m2, _⟩ := MV_facts H
  have u0 := p2_pos (-53)
  have u1 := u_nums.1
  have h1 := Rat.mul_le_mul_of_nonneg_left m1 (Rat.le_of_lt u0)
  have h2 := Rat.mul_le_mul_of_nonneg_left m2 (Rat.le_of_lt u0)
  unfold UM
  refine ⟨by grind, by grind, h1⟩

structure In (al of : List Nat) (m x : Nat) : Prop where
  bd : Bd x 50331649
  l : -MV al of m ≤ val x
  h : val x ≤ MV al of m

theorem rows_le (H : InpB al of m) {i : Nat} (hi : i < m) : val (al.getD i 0) ≤ MV al of m ∧ - val (al.getD i 0) ≤ MV al of m := by
  have := MV_wide H hi
  have := ro1_facts H hi
  have := ro2_facts H i
  constructor <;> grind
theorem offs_le (H : InpB al of m) {i : Nat} (hi : i + 1 < m) : 0 ≤ aV (of.getD i 0) ∧ aV (of.getD i 0) ≤ MV al of m ∧ val (of.getD i 0) * val (of.getD i 0) = aV (of.getD i 0) * aV (of.getD i 0) := by
  have h1 := MV_wide H (show i < m by omega)
  have h2 := ro1_facts H (show i < m by omega)
  have h3 := aV_facts (of.getD i 0)
  have e : ro2 of m i = aV (of.getD i 0) := by unfold ro2; rw [if_pos hi]
  rw [e] at h1
  refine ⟨h3.1, by grind, ?_⟩
  rcases h3.2.2.2 with h | h <;> rw [h] <;> grind

theorem ro_next {i : Nat} : ro1 of (i + 1) = aV (of.getD i 0) := by
  unfold ro1; rw [if_pos (by omega), Nat.add_sub_cancel]
theorem ro_zero : ro1 of 0 = 0 := by unfold ro1; rw [if_neg (by omega)]

/-- outside every disc, by a margin -/
theorem neg_of (H : InpB al of m) {x : Nat} (hx : In al of m x) (h : ∀ i, i < m → val (al.getD i 0) + ro1 of i + ro2 of m i + 128 * UM al of m ≤ val x) : Neg al of x m := by
  have um := UM_facts H
  obtain ⟨_, m1, _⟩ := MV_facts H
  intro i hi
  have D := (ch_neg H hx.bd).dom (M := MV al of m) (b := fun i => aV (of.getD i 0)) m1
    (fun i hi => by have := rows_le H hi; have := hx.h; grind) (fun i hi => offs_le H hi)
    (by
      have h0 := h 0 H.m1
      rw [ro_zero] at h0
      show (if 1 < m then aV (of.getD 0 0) else 0) + 128 * UM al of m ≤ _
      rw [show (if 1 < m then aV (of.getD 0 0) else 0) = ro2 of m 0 from rfl]
      grind)
    (fun i hi => by
      have h0 := h (i + 1) hi
      rw [ro_next] at h0
      show aV (of.getD i 0) + (if i + 2 < m then aV (of.getD (i + 1) 0) else 0) + 128 * UM al of m ≤ _
      rw [show (if i + 2 < m then aV (of.getD (i + 1) 0) else 0) = ro2 of m (i + 1) from rfl]
      grind) i hi
  have p0 : 0 ≤ (if i + 1 < m then aV (of.getD i 0) else 0) := (ro2_facts H i).1
  have : (if i + 1 < m then aV (of.getD i 0) else 0) + 64 * UM al of m ≤ - val (dF al of x i) := D
  grind
theorem pos_of (H : InpB al of m) {x : Nat} (hx : In al of m x) (h : ∀ i, i < m → val x ≤ val (al.getD i 0) - ro1 of i - ro2 of m i - 128 * UM al of m) : Pos al of x m := by
  have um := UM_facts H
  obtain ⟨_, m1, _⟩ := MV_facts H
  intro i hi
  have D := (ch_pos H hx.bd).dom (M := MV al of m) (b := fun i => aV (of.getD i 0)) m1
    (fun i hi => by have := rows_le H hi; have := hx.l; grind) (fun i hi => offs_le H hi)
    (by
      have h0 := h 0 H.m1
      rw [ro_zero] at h0
      show (if 1 < m then aV (of.getD 0 0) else 0) + 128 * UM al of m ≤ _
      rw [show (if 1 < m then aV (of.getD 0 0) else 0) = ro2 of m 0 from rfl]
      grind)
    (fun i hi => by
      have h0 := h (i + 1) hi
      rw [ro_next] at h0
      show aV (of.getD i 0) + (if i + 2 < m then aV (of.getD (i + 1) 0) else 0) + 128 * UM al of m ≤ _
      rw [show (if i + 2 < m then aV (of.getD (i + 1) 0) else 0) = ro2 of m (i + 1) from rfl]
      grind) i hi
  have p0 : 0 ≤ (if i + 1 < m then aV (of.getD i 0) else 0) := (ro2_facts H i).1
  have : (if i + 1 < m then aV (of.getD i 0) else 0) + 64 * UM al of m ≤ val (dF al of x i) := D
  grind

theorem tv_um (H : InpB al of m) : TV ≤ UM al of m := by
  obtain ⟨u1, u0, w0, w1, w2, w3, _, _, w4, w5, w6, w7⟩ := Ch.small
  have := TV_facts
  have := UM_facts H
  grind

/-- what negative pivots say -/
theorem neg_diag (H : InpB al of m) {x : Nat} (hx : Bd x 50331649) (h : Neg al of x m) {i : Nat} (hi : i < m) : val (al.getD i 0) ≤ val x + UM al of m := by
  have := ((ch_neg H hx).diag (Nat.le_refl _) h i hi).1
  have := tv_um H
  grind
theorem neg_off (H : InpB al of m) {x : Nat} (hx : In al of m x) (h : Neg al of x m) {i : Nat} (hi : i + 1 < m) : (val (al.getD i 0) + val (al.getD (i + 1) 0)) / 2 + aV (of.getD i 0) ≤ val x + 64 * UM al of m := by
  obtain ⟨_, m1, _⟩ := MV_facts H
  obtain ⟨o1, o2, o3⟩ := offs_le H hi
  have a1 := rows_le H (show i < m by omega)
  have a2 := rows_le H hi
  have hh := hx.h
  have : aV (of.getD i 0) ≤ _ + 64 * UM al of m := (ch_neg H hx.bd).off (Nat.le_refl _) h i hi (M := MV al of m) (b := aV (of.getD i 0)) m1 (by grind) (by grind) o2 o3
  grind
theorem pos_diag (H : InpB al of m) {x : Nat} (hx : Bd x 50331649) (h : Pos al of x m) {i : Nat} (hi : i < m) : val x ≤ val (al.getD i 0) + UM al of m := by
  have := ((ch_pos H hx).diag (Nat.le_refl _) h i hi).1
  have := tv_um H
  grind
theorem pos_off (H : InpB al of m) {x : Nat} (hx : In al of m x) (h : Pos al of x m) {i : Nat} (hi : i + 1 < m) : val x ≤ (val (al.getD i 0) + val (al.getD (i + 1) 0)) / 2 - aV (of.getD i 0) + 64 * UM al of m := by
  obtain ⟨_, m1, _⟩ := MV_facts H
  obtain ⟨o1, o2, o3⟩ := offs_le H hi
  have a1 := rows_le H (show i < m by omega)
  have a2 := rows_le H hi
  have hh := hx.l
  have : aV (of.getD i 0) ≤ _ + 64 * UM al of m := (ch_pos H hx.bd).off (Nat.le_refl _) h i hi (M := MV al of m) (b := aV (of.getD i 0)) m1 (by grind) (by grind) o2 o3
  grind

theorem inv_in (H : InpB al of m) {lo hi : Nat} (I : InvB al of m lo hi) : In al of m lo ∧ In al of m hi := by
  obtain ⟨_, m1, m2, m3, m4, _⟩ := MV_facts H
  have := I.l0
  have := I.h0
  have := I.lt
  exact ⟨⟨I.blo, by grind, by grind⟩, ⟨I.bhi, by grind, by grind⟩⟩

theorem in0 (H : InpB al of m) : In al of m (lo0F al of m) ∧ In al of m (hi0F al of m) := inv_in H (reach_inv H (k := 0) .start)

theorem reach_high (H : InpB al of m) {lo hi : Nat} (h : Reach al of m (m - 1) lo hi) : Neg al of hi m ∧ ¬ Neg al of lo m := by
  have um := UM_facts H
  have h1 := H.m1
  induction h with
  | start =>
    constructor
    · refine neg_of H (in0 H).2 (fun i hi => ?_)
      have := wide H hi
      grind
    · intro hn
      have := neg_diag H (in0 H).1.bd hn h1
      have := wide H h1
      have := ro1_facts H h1
      have := ro2_facts H 0
      grind
  | left h g c ih =>
    obtain ⟨_, b, _⟩ := strict H (reach_inv H h) g
    exact ⟨(neg_iff H b m (Nat.le_refl _)).1 (Nat.le_antisymm (cnt_le _ _ _ _) (by omega)), ih.2⟩
  | right h g c ih =>
    obtain ⟨_, b, _⟩ := strict H (reach_inv H h) g
    refine ⟨ih.1, fun hn => ?_⟩
    have := (neg_iff H b m (Nat.le_refl _)).2 hn
    omega
theorem reach_low (H : InpB al of m) {lo hi : Nat} (h : Reach al of m 0 lo hi) : Pos al of lo m ∧ ¬ Pos al of hi m := by
  have um := UM_facts H
  have h1 := H.m1
  induction h with
  | start =>
    constructor
    · refine pos_of H (in0 H).1 (fun i hi => ?_)
      have := wide H hi
      grind
    · intro hn
      have := pos_diag H (in0 H).2.bd hn h1
      have := wide H h1
      have := ro1_facts H h1
      have := ro2_facts H 0
      grind
  | left h g c ih =>
    obtain ⟨_, b, _⟩ := strict H (reach_inv H h) g
    refine ⟨ih.1, fun hn => ?_⟩
    have := (pos_iff H b m (Nat.le_refl _)).2 hn
    omega
  | right h g c ih =>
    obtain ⟨_, b, _⟩ := strict H (reach_inv H h) g
    exact ⟨(pos_iff H b m (Nat.le_refl _)).1 (by omega), ih.2⟩

/-- the answer is near both ends -/
theorem near_ends (H : InpB al of m) {lo hi : Nat} (I : InvB al of m lo hi) (g : gtF (pf .sub hi lo) (epsF al of m) = false) :
    Bd (midF lo hi) (p2 26) ∧ val lo ≤ val (midF lo hi) ∧ val (midF lo hi) ≤ val lo + 8 * UM al of m ∧ val hi ≤ val lo + 4 * UM al of m := by
  obtain ⟨fM, M1, M2, M3, M4, _⟩ := MV_facts H
  obtain ⟨fe, ve⟩ := eps_val H
  obtain ⟨ft, rt, t0⟩ := mids I
  obtain ⟨il, ih⟩ := inv_in H I
  obtain ⟨U0, U1, U2⟩ := UM_facts H
  rw [gt_order ft fe] at g
  have hgt := of_decide_eq_false g
  have e52 : p2 (-52) * MV al of m = 2 * UM al of m := by
    have : p2 (-52) = 2 * p2 (-53) := p2_53_52
    unfold UM; rw [this, Rat.mul_assoc]
  rw [ve, e52] at hgt
  obtain ⟨u1, u2, u3, u4, u5⟩ := u_nums
  have u6 := p2_mono (show (-107 : Int) ≤ -106 by omega)
  have u7 : p2 (-106) = p2 (-53) * p2 (-53) := by rw [← p2_add]; rfl
  have u8 := p2_pos (-53)
  have u9 : p2 (-53) * p2 (-53) ≤ p2 (-53) * (1 / 1000) := Rat.mul_le_mul_of_nonneg_left (by grind) (Rat.le_of_lt u8)
  have lt := I.lt
  have hl := il.l
  have hh := ih.h
  have l1 := il.h
  have erT := rt.err (b := val hi - val lo) Rat.le_refl (by grind)
  have hW : p2 (-53) * (val hi - val lo) ≤ (1 / 1024) * (val hi - val lo) := Rat.mul_le_mul_of_nonneg_right (by grind) (by grind)
  generalize hT : pf .sub hi lo = T at *
  obtain ⟨f2, v2⟩ := val_pow (w := 4611686018427387904) 1023 1 (by omega) rfl (by omega)
  have v2' : val 4611686018427387904 = 2 := by rw [v2, p2_53.2.1]
  have q := pf_quo ft f2 (by rw [v2']; grind)
  rw [v2'] at q
  have big := nums.2.2
  obtain ⟨fh, rh⟩ := q.small (by grind) (by grind)
  have h0 := rh.nonneg (by grind)
  have h1 := rh.mono (rn_val T) (by grind)
  have q2 := pf_add I.blo.1 fh
  obtain ⟨fm, rm⟩ := q2.small (by grind) (by grind)
  have m0 := (rn_val lo).mono rm (by grind)
  have em := rm.err (b := 2 * MV al of m) (by grind) (by grind)
  have em2 : p2 (-53) * (2 * MV al of m) = 2 * UM al of m := by unfold UM; grind
  rw [em2] at em
  have n26 : p2 26 = 67108864 := by rw [show (26 : Int) = ((26 : Nat) : Int) from rfl, p2_nat]; rfl
  have em3 : midF lo hi = pf .add lo (pf .quo T 4611686018427387904) := by unfold midF; rw [hT]
  rw [em3]
  generalize pf .add lo (pf .quo T 4611686018427387904) = z at *
  refine ⟨⟨fm, by rw [n26]; grind, by rw [n26]; grind⟩, m0, by grind, by grind⟩

structure High (al of : List Nat) (m th : Nat) : Prop where
  bd : Bd th (p2 26)
  up : ∃ hi, In al of m hi ∧ Neg al of hi m ∧ val hi ≤ val th + 8 * UM al of m
  dn : ∃ lo, In al of m lo ∧ ¬ Neg al of lo m ∧ val th ≤ val lo + 8 * UM al of m
structure Low (al of : List Nat) (m th : Nat) : Prop where
  bd : Bd th (p2 26)
  up : ∃ hi, In al of m hi ∧ ¬ Pos al of hi m ∧ val hi ≤ val th + 8 * UM al of m
  dn : ∃ lo, In al of m lo ∧ Pos al of lo m ∧ val th ≤ val lo + 8 * UM al of m
theorem high_of (H : InpB al of m) {th : Nat} (h : Answer al of m (m - 1) th) : High al of m th := by
  obtain ⟨lo, hi, hr, hg, rfl⟩ := h
  have I := reach_inv H hr
  obtain ⟨b, n1, n2, n3⟩ := near_ends H I hg
  have um := UM_facts H
  obtain ⟨r1, r2⟩ := reach_high H hr
  obtain ⟨i1, i2⟩ := inv_in H I
  exact ⟨b, ⟨hi, i2, r1, by grind⟩, ⟨lo, i1, r2, by grind⟩⟩
theorem low_of (H : InpB al of m) {th : Nat} (h : Answer al of m 0 th) : Low al of m th := by
  obtain ⟨lo, hi, hr, hg, rfl⟩ := h
  have I := reach_inv H hr
  obtain ⟨b, n1, n2, n3⟩ := near_ends H I hg
  have um := UM_facts H
  obtain ⟨r1, r2⟩ := reach_low H hr
  obtain ⟨i1, i2⟩ := inv_in H I
  exact ⟨b, ⟨hi, i2, r2, by grind⟩, ⟨lo, i1, r1, by grind⟩⟩

theorem High.diag (H : InpB al of m) {th : Nat} (h : High al of m th) {i : Nat} (hi : i < m) : val (al.getD i 0) ≤ val th + 9 * UM al of m := by
  obtain ⟨x, i1, i2, i3⟩ := h.up
  have := neg_diag H i1.bd i2 hi
  grind
theorem High.off (H : InpB al of m) {th : Nat} (h : High al of m th) {i : Nat} (hi : i + 1 < m) : (val (al.getD i 0) + val (al.getD (i + 1) 0)) / 2 + aV (of.getD i 0) ≤ val th + 72 * UM al of m := by
  obtain ⟨x, i1, i2, i3⟩ := h.up
  have := neg_off H i1 i2 hi
  grind
theorem High.disc (H : InpB al of m) {th : Nat} (h : High al of m th) : ∃ i, i < m ∧ val th ≤ val (al.getD i 0) + ro1 of i + ro2 of m i + 136 * UM al of m := by
  obtain ⟨x, i1, i2, i3⟩ := h.dn
  apply Classical.byContradiction
  intro hc
  apply i2
  refine neg_of H i1 (fun i hi => ?_)
  have : ¬ val th ≤ val (al.getD i 0) + ro1 of i + ro2 of m i + 136 * UM al of m := fun h => hc ⟨i, hi, h⟩
  grind
theorem Low.diag (H : InpB al of m) {th : Nat} (h : Low al of m th) {i : Nat} (hi : i < m) : val th ≤ val (al.getD i 0) + 9 * UM al of m := by
  obtain ⟨x, i1, i2, i3⟩ := h.dn
  have := pos_diag H i1.bd i2 hi
  grind
theorem Low.off (H : InpB al of m) {th : Nat} (h : Low al of m th) {i : Nat} (hi : i + 1 < m) : val th ≤ (val (al.getD i 0) + val (al.getD (i + 1) 0)) / 2 - aV (of.getD i 0) + 72 * UM al of m := by
  obtain ⟨x, i1, i2, i3⟩ := h.dn
  have := pos_off H i1 i2 hi
  grind
theorem Low.disc (H : InpB al of m) {th : Nat} (h : Low al of m th) : ∃ i, i < m ∧ val (al.getD i 0) - ro1 of i - ro2 of m i ≤ val th + 136 * UM al of m := by
  obtain ⟨x, i1, i2, i3⟩ := h.up
  apply Classical.byContradiction
  intro hc
  apply i2
  refine pos_of H i1 (fun i hi => ?_)
  have : ¬ val (al.getD i 0) - ro1 of i - ro2 of m i ≤ val th + 136 * UM al of m := fun h => hc ⟨i, hi, h⟩
  grind

/-- the scale, by the row sums -/
theorem MV_le (H : InpB al of m) {R : Rat} (hR : ∀ i, i < m → val (al.getD i 0) + ro1 of i + ro2 of m i ≤ R ∧ - val (al.getD i 0) + ro1 of i + ro2 of m i ≤ R) : MV al of m ≤ R + 1 + 1 / 100000 := by
  obtain ⟨bl, l1, l2⟩ := lo0_facts H
  obtain ⟨bh, h1, h2⟩ := hi0_facts H
  obtain ⟨u1, u2, u3, u4, u5⟩ := u_nums
  have r0 : 0 ≤ R := by
    have := hR 0 H.m1
    have := ro1_facts H H.m1
    have := ro2_facts H 0
    grind
  have c : ∀ i, i < m → val (pf .add (al.getD i 0) (radF of m i)) ≤ R + 1 / 1000000 ∧ -(R + 1 / 1000000) ≤ val (pf .sub (al.getD i 0) (radF of m i)) := by
    intro i hi
    obtain ⟨⟨_, a1⟩, ⟨_, a2⟩⟩ := lows H hi
    obtain ⟨_, r1, r2, r3⟩ := rad_val H hi
    have b1 := ro1_facts H hi
    have b2 := ro2_facts H i
    have ha := (H.al i hi).2
    rw [nums.1] at ha
    have e1 := r1.err (b := 50331648) (by grind) (by grind)
    have e2 := a1.err (b := 50331648) (by grind) (by grind)
    have e3 := a2.err (b := 50331648) (by grind) (by grind)
    have := hR i hi
    constructor <;> grind
  have f0 := hR 0 H.m1
  have p1 := ro1_facts H H.m1
  have p2' := ro2_facts H 0
  have gh : ∀ j, j ≤ m → val (gHi al of m j) ≤ R + 1 / 1000000 ∧ -(R + 1 / 1000000) ≤ val (gLo al of m j) := by
    intro j
    induction j with
    | zero => intro _; exact ⟨by show val (al.getD 0 0) ≤ _; grind, by show _ ≤ val (al.getD 0 0); grind⟩
    | succ j ih =>
      intro hj
      obtain ⟨i1, i2⟩ := ih (by omega)
      obtain ⟨c1, c2⟩ := c j (by omega)
      have hl := lows H (show j < m by omega)
      obtain ⟨b1, _⟩ := gHi_facts H j (by omega)
      obtain ⟨b2, _⟩ := gLo_facts H j (by omega)
      constructor
      · show val (maxW _ _) ≤ _
        rcases (max_facts b1.1 hl.2.1.1).1 with e | e <;> rw [e] <;> assumption
      · show _ ≤ val (minW _ _)
        rcases (min_facts b2.1 hl.1.1.1).1 with e | e <;> rw [e] <;> assumption
  obtain ⟨g1, g2⟩ := gh m (Nat.le_refl _)
  obtain ⟨_, q1, _⟩ := gLo_facts H m (Nat.le_refl _)
  obtain ⟨_, q2, _⟩ := gHi_facts H m (Nat.le_refl _)
  have al' := abs_val (lo0F al of m)
  have ah' := abs_val (hi0F al of m)
  unfold MV
  rcases (max_facts (fin_absF bl.1) (fin_absF bh.1)).1 with e | e <;> rw [e] <;> grind
end
end Go.Proofs.Qxb6605993a
