/- The bounds that the law FnExtremeRitzValuesMoveOutwardAsTGrows computes for two rows and more, as plain functions of words, and the plain law. -/
import Derived.Test.Qxb6605993aL4F
namespace Go.Proofs.Qxb6605993a
open Ieee Fl

def amxF (al : List Nat) : Nat → Nat
  | 0 => al.getD 0 0
  | j + 1 => zmaxF (amxF al j) (al.getD (j + 1) 0)
def amnF (al : List Nat) : Nat → Nat
  | 0 => al.getD 0 0
  | j + 1 => zminF (amnF al j) (al.getD (j + 1) 0)
def sprF (al be : List Nat) (m : Nat) : Nat → Nat
  | 0 => pf .sub (amxF al (m - 1)) (amnF al (m - 1))
  | j + 1 => zmaxF (sprF al be m j) (pf .mul 4611686018427387904 (zabsF (be.getD j 0)))

section
variable {al be : List Nat} {m : Nat}

theorem amx_facts (H : InpB al be m) (j : Nat) (hj : j < m) : (∃ i, i < m ∧ amxF al j = al.getD i 0) ∧ (∃ i, i < m ∧ amnF al j = al.getD i 0) := by
  induction j with
  | zero => exact ⟨⟨0, hj, rfl⟩, ⟨0, hj, rfl⟩⟩
  | succ j ih =>
    obtain ⟨⟨i, i1, i2⟩, ⟨k, k1, k2⟩⟩ := ih (by omega)
    have A := H.al i i1
    have B := H.al k k1
    have C := H.al (j + 1) hj
    unfold amxF amnF
    rw [i2, k2]
    constructor
    · rcases (zmax_facts A.1 C.1).1 with e | e
      · exact ⟨i, i1, e⟩
      · exact ⟨j + 1, hj, e⟩
    · rcases (zmin_facts B.1 C.1).1 with e | e
      · exact ⟨k, k1, e⟩
      · exact ⟨j + 1, hj, e⟩

theorem w_um (H : InpB al be m) : p2 (-1075) ≤ UM al be m / 1000 := by
  obtain ⟨v1, v0, w0, w1, w2, w3, _, _, w4, w5, w6, w7⟩ := Ch.small
  have := UM_facts H
  grind

theorem spr_facts (H : InpB al be m) (o64 : W64 be) {C : Rat} (h1 : ∀ i k, i < m → k < m → val (al.getD i 0) - val (al.getD k 0) + 4 * UM al be m ≤ C) (h2 : ∀ i, i + 1 < m → 2 * aV (be.getD i 0) + 4 * UM al be m ≤ C) (j : Nat) (hj : j < m) :
    Bd (sprF al be m j) 50331648 ∧ val (sprF al be m j) ≤ C ∧ ∀ i, i < j → Fl.Fin (pf .mul 4611686018427387904 (zabsF (be.getD i 0))) := by
  have eu : UM al be m = p2 (-53) * MV al be m := rfl
  have w1 := w_um H
  have um := UM_facts H
  induction j with
  | zero =>
    obtain ⟨⟨i, i1, i2⟩, ⟨k, k1, k2⟩⟩ := amx_facts H (m - 1) (by omega)
    unfold sprF
    rw [i2, k2]
    have A := H.al i i1
    have B := H.al k k1
    have A2 := A.2
    have B2 := B.2
    rw [nums.1] at A2 B2
    have aM := rows_le H i1
    have bM := rows_le H k1
    obtain ⟨b, r⟩ := bd_K (pf_sub A.1 B.1) (by grind) (by grind)
    have e := r.err (b := 2 * MV al be m) (by grind) (by grind)
    rw [show p2 (-53) * (2 * MV al be m) = 2 * UM al be m by rw [eu]; grind] at e
    have := h1 i k i1 k1
    exact ⟨b, by grind, fun i hi => by omega⟩
  | succ j ih =>
    obtain ⟨b, c, f⟩ := ih (by omega)
    have O := H.of j hj
    have z := zabs_val O.1 (o64.get j)
    obtain ⟨f2, v2⟩ := two_val
    have q := pf_mul f2 z.1
    rw [z.2, v2] at q
    have oM := offs_le H hj
    have o24 := aV_le O
    rw [nums.1] at o24
    obtain ⟨b2, r⟩ := bd_K q (by grind) (by grind)
    have e := r.err (b := 2 * MV al be m) (by grind) (by grind)
    rw [show p2 (-53) * (2 * MV al be m) = 2 * UM al be m by rw [eu]; grind] at e
    have := h2 j hj
    have x : Bd (sprF al be m (j + 1)) 50331648 ∧ val (sprF al be m (j + 1)) ≤ C := by
      unfold sprF
      rcases (zmax_facts b.1 b2.1).1 with e' | e' <;> rw [e']
      · exact ⟨b, c⟩
      · exact ⟨b2, by grind⟩
    refine ⟨x.1, x.2, fun i hi => ?_⟩
    by_cases h : i = j
    · subst h; exact b2.1
    · exact f i (by omega)

theorem slack_more (H : InpB al be m) (a64 : W64 al) (o64 : W64 be) : 8000 * (p2 (-53) * (val (grow al be m m) + 1)) ≤ val (slF al be m) := by
  obtain ⟨b, n, a⟩ := grow_facts H a64 o64 m (Nat.le_refl _)
  obtain ⟨u1, u2, u3, u4, u5⟩ := u_nums
  have u0 := p2_pos (-53)
  have big := nums.2.2
  have b2 := b.2
  have q := pf_add fin_one b.1
  rw [val_one] at q
  obtain ⟨f1, r1⟩ := q.small (by grind) (by grind)
  have e1 := r1.err (b := 50331649) (by grind) (by grind)
  obtain ⟨fc, c1, c2⟩ := val_e12
  have q2 := pf_mul fc f1
  have p0 : 0 ≤ val (pf .add 4607182418800017408 (grow al be m m)) := by grind
  have k1 := Rat.mul_le_mul_of_nonneg_right c1 p0
  have k2 := Rat.mul_le_mul_of_nonneg_right c2 p0
  have k3 := Rat.mul_le_mul_of_nonneg_left (show val (pf .add 4607182418800017408 (grow al be m m)) ≤ 50331650 by grind) (Rat.le_of_lt u0)
  have k4 := Rat.mul_le_mul_of_nonneg_left (show (val (grow al be m m) + 1) * (999 / 1000) ≤ val (pf .add 4607182418800017408 (grow al be m m)) by grind) (Rat.le_of_lt u0)
  obtain ⟨f2, r2⟩ := q2.small (by grind) (by grind)
  have e2 := r2.err (b := 1 / 2) (by grind) (by grind)
  have k5 := Rat.mul_le_mul_of_nonneg_left (show 1 ≤ val (grow al be m m) + 1 by grind) (Rat.le_of_lt u0)
  show _ ≤ val (pf .mul _ (pf .add _ _))
  grind

theorem InpB.pre (H : InpB al be m) {n : Nat} (h1 : 1 ≤ n) (hn : n ≤ m) : InpB al be n := ⟨h1, fun i hi => H.al i (by omega), fun i hi => H.of i (by omega)⟩

theorem slack_pre (H : InpB al be m) (a64 : W64 al) (o64 : W64 be) {n : Nat} (h1 : 1 ≤ n) (hn : n ≤ m) : 1000 * UM al be n ≤ val (slF al be m) := by
  have Hn := H.pre h1 hn
  obtain ⟨b, g0, a⟩ := grow_facts H a64 o64 m (Nat.le_refl _)
  have mv := MV_le Hn (R := val (grow al be m m) + 1 / 10000000) (fun i hi => by
    have := a i (by omega)
    have := aV_facts (al.getD i 0)
    have h2 : ro2 be n i ≤ ro2 be m i := by
      unfold ro2
      by_cases h : i + 1 < n
      · rw [if_pos h, if_pos (by omega)]; exact Rat.le_refl
      · rw [if_neg h]
        exact (ro2_facts H i).1
    constructor <;> grind)
  have s := slack_more H a64 o64
  have eu : UM al be n = p2 (-53) * MV al be n := rfl
  have k := Rat.mul_le_mul_of_nonneg_left (show MV al be n ≤ 2 * (val (grow al be m m) + 1) by grind) (Rat.le_of_lt (p2_pos (-53)))
  have k6 := Rat.mul_nonneg (Rat.le_of_lt (p2_pos (-53))) (show 0 ≤ val (grow al be m m) + 1 by grind)
  clear a
  grind

/-- one row more: the largest value moves up -/
theorem inter_high (H : InpB al be m) {n : Nat} (h1 : 1 ≤ n) (hn : n ≤ m) {hi ph : Nat} (h : High al be m hi) (p : High al be n ph) : val ph ≤ val hi + 8 * UM al be m + 8 * UM al be n := by
  have Hn := H.pre h1 hn
  obtain ⟨x, x1, x2, x3⟩ := h.up
  obtain ⟨y, y1, y2, y3⟩ := p.dn
  have : val y < val x := by
    apply Classical.byContradiction
    intro hc
    apply y2
    intro i hi
    exact ((ch_neg Hn x1.bd).mono (ch_neg Hn y1.bd) (fun i _ => by show val x - _ ≤ val y - _; grind) (Nat.le_refl _) (fun i hi => x2 i (by omega)) i hi).1
  grind
theorem inter_low (H : InpB al be m) {n : Nat} (h1 : 1 ≤ n) (hn : n ≤ m) {lo pl : Nat} (h : Low al be m lo) (p : Low al be n pl) : val lo ≤ val pl + 8 * UM al be m + 8 * UM al be n := by
  have Hn := H.pre h1 hn
  obtain ⟨x, x1, x2, x3⟩ := h.dn
  obtain ⟨y, y1, y2, y3⟩ := p.up
  have : val x < val y := by
    apply Classical.byContradiction
    intro hc
    apply y2
    intro i hi
    exact ((ch_pos Hn x1.bd).mono (ch_pos Hn y1.bd) (fun i _ => by show _ - val x ≤ _ - val y; grind) (Nat.le_refl _) (fun i hi => x2 i (by omega)) i hi).1
  grind

/-- what the last line asks -/
structure Fine5 (al be : List Nat) (m hi lo ph pl : Nat) : Prop where
  g0 : Fl.Fin (pf .sub (amxF al (m - 1)) (amnF al (m - 1)))
  g1 : ∀ i, i + 1 < m → Fl.Fin (pf .mul 4611686018427387904 (zabsF (be.getD i 0)))
  g2 : Fl.Fin (pf .mul 4611686018427387904 (slF al be m))
  g3 : Fl.Fin (pf .mul 4613937818241073152 (slF al be m))
  f1 : Fl.Fin (pf .sub ph (pf .mul 4611686018427387904 (slF al be m)))
  f2 : Fl.Fin (pf .add pl (pf .mul 4611686018427387904 (slF al be m)))
  f3 : Fl.Fin (pf .sub hi lo)
  f4 : Fl.Fin (pf .sub (sprF al be m (m - 1)) (pf .mul 4613937818241073152 (slF al be m)))
  c1 : geF hi (pf .sub ph (pf .mul 4611686018427387904 (slF al be m))) = true
  c2 : leF lo (pf .add pl (pf .mul 4611686018427387904 (slF al be m))) = true
  c3 : geF (pf .sub hi lo) (pf .sub (sprF al be m (m - 1)) (pf .mul 4613937818241073152 (slF al be m))) = true

theorem three_val : Fl.Fin 4613937818241073152 ∧ val 4613937818241073152 = 3 := by
  have e : 4613937818241073152 = 1023 * 4503599627370496 + 6755399441055744 := by omega
  refine ⟨by rw [e]; exact fin_at _ _ (by omega) (by omega), ?_⟩
  rw [e, val_at 1023 _ (Or.inr (by omega)) (by omega) (by omega), show ((1023 : Nat) : Int) - 1074 = -51 by rfl, show ((6755399441055744 : Nat) : Rat) = 6755399441055744 from rfl]
  have h : p2 (-51) = 2 * p2 (-52) := by have := p2_half (-52); rwa [show (-52 + 1 : Int) = -51 by rfl] at this
  have := p2_m52'
  rw [h]
  grind

theorem fine5 (H : InpB al be m) (a64 : W64 al) (o64 : W64 be) (h2 : 2 ≤ m) {hi lo ph pl : Nat} (Hh : High al be m hi) (Hl : Low al be m lo) (Ph : High al be (m - 1) ph) (Pl : Low al be (m - 1) pl) : Fine5 al be m hi lo ph pl := by
  obtain ⟨_, fs, s1, s2, _⟩ := slack_facts H a64 o64
  have s3 := slack_pre H a64 o64 (n := m - 1) (by omega) (by omega)
  have um := UM_facts H
  have um' := UM_facts (H.pre (n := m - 1) (by omega) (by omega))
  have ih := inter_high H (n := m - 1) (by omega) (by omega) Hh Ph
  have il := inter_low H (n := m - 1) (by omega) (by omega) Hl Pl
  have n26 : p2 26 = 67108864 := by rw [show (26 : Int) = ((26 : Nat) : Int) from rfl, p2_nat]; rfl
  have bh := Hh.bd.2
  have bl := Hl.bd.2
  have bp := Ph.bd.2
  have bq := Pl.bd.2
  rw [n26] at bh bl bp bq
  have big := nums.2.2
  obtain ⟨u1, u2, u3, u4, u5⟩ := u_nums
  obtain ⟨sb, sc, sf⟩ := spr_facts H o64 (C := val hi - val lo + 160 * UM al be m)
    (fun i k hi hk => by have := Hh.diag H hi; have := Hl.diag H hk; grind)
    (fun i hi => by have := Hh.off H hi; have := Hl.off H hi; grind) (m - 1) (by omega)
  obtain ⟨sb0, _⟩ := spr_facts H o64 (C := val hi - val lo + 160 * UM al be m)
    (fun i k hi hk => by have := Hh.diag H hi; have := Hl.diag H hk; grind)
    (fun i hi => by have := Hh.off H hi; have := Hl.off H hi; grind) 0 (by omega)
  have sb2 := sb.2
  obtain ⟨f2, v2⟩ := two_val
  obtain ⟨f3, v3⟩ := three_val
  have q2 := pf_mul f2 fs
  have q3 := pf_mul f3 fs
  rw [v2] at q2
  rw [v3] at q3
  obtain ⟨g2, r2⟩ := q2.small (by grind) (by grind)
  obtain ⟨g3, r3⟩ := q3.small (by grind) (by grind)
  have m2 := (rn_val (slF al be m)).mono r2 (by grind)
  have m3 := (rn_val (slF al be m)).mono r3 (by grind)
  have e2 := r2.err (b := 4) (by grind) (by grind)
  have e3 := r3.err (b := 4) (by grind) (by grind)
  obtain ⟨f1', r1'⟩ := (pf_sub Ph.bd.1 g2).small (by grind) (by grind)
  obtain ⟨f2', r2'⟩ := (pf_add Pl.bd.1 g2).small (by grind) (by grind)
  obtain ⟨f3', r3'⟩ := (pf_sub Hh.bd.1 Hl.bd.1).small (by grind) (by grind)
  obtain ⟨f4', r4'⟩ := (pf_sub sb.1 g3).small (by grind) (by grind)
  refine ⟨sb0.1, fun i hi => sf i (by omega), g2, g3, f1', f2', f3', f4', ?_, ?_, ?_⟩
  · rw [ge_orderF Hh.bd.1 f1']
    exact decide_eq_true (r1'.mono (rn_val _) (by grind))
  · rw [le_orderF Hl.bd.1 f2']
    exact decide_eq_true ((rn_val _).mono r2' (by grind))
  · rw [ge_orderF f3' f4']
    exact decide_eq_true (r4'.mono r3' (by grind))
end
end Go.Proofs.Qxb6605993a
