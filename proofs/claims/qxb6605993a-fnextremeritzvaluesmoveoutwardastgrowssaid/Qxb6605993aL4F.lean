/- The bounds that the law FnExtremeRitzValuesBetweenRayleighAndGershgorin computes, as plain functions of words. -/
import Derived.Test.Qxb6605993aZz
import Derived.Test.Qxb6605993aSgnB
namespace Go.Proofs.Qxb6605993a
open Ieee Fl

def zrad1 (be : List Nat) (j : Nat) : Nat := if 0 < j then pf .add 0 (zabsF (be.getD (j - 1) 0)) else 0
def zrad (be : List Nat) (m j : Nat) : Nat := if j + 1 < m then pf .add (zrad1 be j) (zabsF (be.getD j 0)) else zrad1 be j
def midR (al : List Nat) (j : Nat) : Nat := pf .add (pf .quo (al.getD j 0) 4611686018427387904) (pf .quo (al.getD (j + 1) 0) 4611686018427387904)
def ghF (al be : List Nat) (m : Nat) : Nat → Nat
  | 0 => al.getD 0 0
  | j + 1 => zmaxF (ghF al be m j) (pf .add (al.getD j 0) (zrad be m j))
def glF (al be : List Nat) (m : Nat) : Nat → Nat
  | 0 => al.getD 0 0
  | j + 1 => zminF (glF al be m j) (pf .sub (al.getD j 0) (zrad be m j))
def rhF (al be : List Nat) (m : Nat) : Nat → Nat
  | 0 => al.getD 0 0
  | j + 1 => if j + 1 < m then zmaxF (zmaxF (rhF al be m j) (al.getD j 0)) (pf .add (midR al j) (zabsF (be.getD j 0))) else zmaxF (rhF al be m j) (al.getD j 0)
def rlF (al be : List Nat) (m : Nat) : Nat → Nat
  | 0 => al.getD 0 0
  | j + 1 => if j + 1 < m then zminF (zminF (rlF al be m j) (al.getD j 0)) (pf .sub (midR al j) (zabsF (be.getD j 0))) else zminF (rlF al be m j) (al.getD j 0)
/-- the slack -/
def one1 (al be : List Nat) (m : Nat) : Nat := pf .add 4607182418800017408 (grow al be m m)
def slF (al be : List Nat) (m : Nat) : Nat := pf .mul 4427486594234968593 (one1 al be m)
def lastF (be : List Nat) (m : Nat) : Nat := pf .mul (zabsF (be.getD (m - 1) 0)) 4607182418800021912

theorem val_e12 : Fl.Fin 4427486594234968593 ∧ 9007 * p2 (-53) ≤ val 4427486594234968593 ∧ val 4427486594234968593 ≤ 9008 * p2 (-53) := by
  have e : 4427486594234968593 = 982 * 4503599627370496 + 4951760157141521 := by omega
  have P := p2_pos (-92)
  have h39 : p2 (-53) = 549755813888 * p2 (-92) := by
    have : p2 39 = 549755813888 := by rw [show (39 : Int) = ((39 : Nat) : Int) from rfl, p2_nat]; rfl
    rw [← this, ← p2_add]; rfl
  refine ⟨by rw [e]; exact fin_at _ _ (by omega) (by omega), ?_, ?_⟩
  · rw [e, val_at 982 _ (Or.inr (by omega)) (by omega) (by omega), h39, show ((982 : Nat) : Int) - 1074 = -92 by rfl, show ((4951760157141521 : Nat) : Rat) = 4951760157141521 from rfl]
    grind
  · rw [e, val_at 982 _ (Or.inr (by omega)) (by omega) (by omega), h39, show ((982 : Nat) : Int) - 1074 = -92 by rfl, show ((4951760157141521 : Nat) : Rat) = 4951760157141521 from rfl]
    grind
theorem val_12 : Fl.Fin 4607182418800021912 ∧ val 4607182418800021912 = 1 + 4504 * p2 (-52) := by
  have e : 4607182418800021912 = 1022 * 4503599627370496 + 4503599627375000 := by omega
  have h := p2_m52'
  refine ⟨by rw [e]; exact fin_at _ _ (by omega) (by omega), ?_⟩
  rw [e, val_at 1022 _ (Or.inr (by omega)) (by omega) (by omega), show ((1022 : Nat) : Int) - 1074 = -52 by rfl, show ((4503599627375000 : Nat) : Rat) = 4503599627375000 from rfl]
  grind

section
variable {al be : List Nat} {m : Nat}

theorem slack_facts (H : InpB al be m) (a64 : W64 al) (o64 : W64 be) :
    Fl.Fin (one1 al be m) ∧ Fl.Fin (slF al be m) ∧ 1000 * UM al be m ≤ val (slF al be m) ∧ val (slF al be m) ≤ 1 ∧ MV al be m ≤ val (grow al be m m) + 1 + 1 / 10000 := by
  obtain ⟨b, n, a⟩ := grow_facts H a64 o64 m (Nat.le_refl _)
  obtain ⟨u1, u2, u3, u4, u5⟩ := u_nums
  have u0 := p2_pos (-53)
  have big := nums.2.2
  have mv := MV_le H (R := val (grow al be m m) + 1 / 10000000) (fun i hi => by
    have := a i hi
    have := aV_facts (al.getD i 0)
    constructor <;> grind)
  have b2 := b.2
  have q := pf_add fin_one b.1
  rw [val_one] at q
  obtain ⟨f1, r1⟩ := q.small (by grind) (by grind)
  have e1 := r1.err (b := 50331649) (by grind) (by grind)
  obtain ⟨fc, c1, c2⟩ := val_e12
  have q2 := pf_mul fc f1
  have c0 : 0 ≤ val 4427486594234968593 := by grind
  have p0 : 0 ≤ val (pf .add 4607182418800017408 (grow al be m m)) := by grind
  have k1 := Rat.mul_le_mul_of_nonneg_right c1 p0
  have k2 := Rat.mul_le_mul_of_nonneg_right c2 p0
  have k3 := Rat.mul_le_mul_of_nonneg_left (show val (pf .add 4607182418800017408 (grow al be m m)) ≤ 50331650 by grind) (Rat.le_of_lt u0)
  have k4 := Rat.mul_le_mul_of_nonneg_left (show MV al be m * (9 / 10) ≤ val (pf .add 4607182418800017408 (grow al be m m)) by grind) (Rat.le_of_lt u0)
  obtain ⟨f2, r2⟩ := q2.small (by grind) (by grind)
  have e2 := r2.err (b := 1 / 2) (by grind) (by grind)
  have um := UM_facts H
  have eu : UM al be m = p2 (-53) * MV al be m := rfl
  have k5 : p2 (-53) * (1 / 2) ≤ UM al be m := by grind
  exact ⟨f1, f2, by show _ ≤ val (pf .mul _ (pf .add _ _)); grind, by show val (pf .mul _ (pf .add _ _)) ≤ _; grind, by grind⟩

theorem two_val : Fl.Fin 4611686018427387904 ∧ val 4611686018427387904 = 2 := by
  obtain ⟨f2, v2⟩ := val_pow (w := 4611686018427387904) 1023 1 (by omega) rfl (by omega)
  exact ⟨f2, by rw [v2, p2_53.2.1]⟩

theorem zrad_val (H : InpB al be m) (o64 : W64 be) {i : Nat} (hi : i < m) : Fl.Fin (zrad1 be i) ∧ Fl.Fin (zrad be m i) ∧ RN (ro1 be i + ro2 be m i) (val (zrad be m i)) ∧ 0 ≤ val (zrad be m i) ∧ val (zrad be m i) ≤ 33554432 := by
  have a1 := ro1_facts H hi
  have a2 := ro2_facts H i
  have big := nums.2.2
  have r25 := rn_p2 25 (by omega)
  rw [nums.2.1] at r25
  have h1 : Eqv (zrad1 be i) (ro1 be i) := by
    unfold zrad1 ro1 at *
    split
    · rename_i h
      rw [if_pos h] at a1
      have hb := H.of (i - 1) (by omega)
      have z := zabs_val hb.1 (o64.get (i - 1))
      have q := pf_add fin_zero z.1
      rw [val_zero, z.2, show (0 : Rat) + aV (be.getD (i - 1) 0) = aV (be.getD (i - 1) 0) by grind] at q
      obtain ⟨f1, r1⟩ := q.small (by grind) (by grind)
      exact ⟨f1, by rw [← z.2] at r1 ⊢; exact r1.eq (rn_val _)⟩
    · exact ⟨fin_zero, val_zero⟩
  have key : Fl.Fin (zrad be m i) ∧ RN (ro1 be i + ro2 be m i) (val (zrad be m i)) := by
    unfold zrad ro2 at *
    split
    · rename_i h
      rw [if_pos h] at a2
      have z := zabs_val (H.of i h).1 (o64.get i)
      have q := pf_add h1.1 z.1
      rw [h1.2, z.2] at q
      exact q.small (by grind) (by grind)
    · refine ⟨h1.1, ?_⟩
      rw [h1.2, show ro1 be i + 0 = ro1 be i by grind, ← h1.2]
      exact rn_val _
  exact ⟨h1.1, key.1, key.2, key.2.nonneg (by grind), key.2.mono r25 (by grind)⟩

theorem disc4 (H : InpB al be m) (o64 : W64 be) {i : Nat} (hi : i < m) :
    Bd (pf .add (al.getD i 0) (zrad be m i)) 50331648 ∧ val (al.getD i 0) + ro1 be i + ro2 be m i ≤ val (pf .add (al.getD i 0) (zrad be m i)) + 4 * UM al be m ∧
    Bd (pf .sub (al.getD i 0) (zrad be m i)) 50331648 ∧ val (pf .sub (al.getD i 0) (zrad be m i)) ≤ val (al.getD i 0) - ro1 be i - ro2 be m i + 4 * UM al be m := by
  obtain ⟨_, f, rn, r0, r1⟩ := zrad_val H o64 hi
  have ha := H.al i hi
  have ha2 := ha.2
  rw [nums.1] at ha2
  obtain ⟨b1, q1⟩ := bd_K (pf_add ha.1 f) (by grind) (by grind)
  obtain ⟨b2, q2⟩ := bd_K (pf_sub ha.1 f) (by grind) (by grind)
  have w := MV_wide H hi
  obtain ⟨u1, u2, u3, u4, u5⟩ := u_nums
  obtain ⟨um, um1, um2⟩ := UM_facts H
  have eu : UM al be m = p2 (-53) * MV al be m := rfl
  have a1 := ro1_facts H hi
  have a2 := ro2_facts H i
  have w1 : p2 (-1075) ≤ UM al be m / 1000 := by
    obtain ⟨v1, v0, w0, w1, w2, w3, _, _, w4, w5, w6, w7⟩ := Ch.small
    grind
  have e0 := rn.err (b := MV al be m) (by grind) (by grind)
  have e1 := q1.err (b := MV al be m) (by grind) (by grind)
  have e2 := q2.err (b := MV al be m) (by grind) (by grind)
  rw [← eu] at e0 e1 e2
  exact ⟨b1, by grind, b2, by grind⟩

theorem mid4 (H : InpB al be m) (o64 : W64 be) {i : Nat} (hi : i + 1 < m) :
    Fl.Fin (pf .quo (al.getD i 0) 4611686018427387904) ∧ Fl.Fin (pf .quo (al.getD (i + 1) 0) 4611686018427387904) ∧ Fl.Fin (midR al i) ∧
    Bd (pf .add (midR al i) (zabsF (be.getD i 0))) 50331648 ∧ val (pf .add (midR al i) (zabsF (be.getD i 0))) ≤ (val (al.getD i 0) + val (al.getD (i + 1) 0)) / 2 + aV (be.getD i 0) + 8 * UM al be m ∧
    Bd (pf .sub (midR al i) (zabsF (be.getD i 0))) 50331648 ∧ (val (al.getD i 0) + val (al.getD (i + 1) 0)) / 2 - aV (be.getD i 0) ≤ val (pf .sub (midR al i) (zabsF (be.getD i 0))) + 8 * UM al be m := by
  obtain ⟨f2, v2⟩ := two_val
  have A := H.al i (by omega)
  have B := H.al (i + 1) hi
  have A2 := A.2
  have B2 := B.2
  rw [nums.1] at A2 B2
  have O := H.of i hi
  have z := zabs_val O.1 (o64.get i)
  have oM := offs_le H hi
  have o24 := aV_le O
  rw [nums.1] at o24
  have aM := rows_le H (show i < m by omega)
  have bM := rows_le H hi
  obtain ⟨u1, u2, u3, u4, u5⟩ := u_nums
  obtain ⟨um, um1, um2⟩ := UM_facts H
  have eu : UM al be m = p2 (-53) * MV al be m := rfl
  have w1 : p2 (-1075) ≤ UM al be m / 1000 := by
    obtain ⟨v1, v0, w0, w1, w2, w3, _, _, w4, w5, w6, w7⟩ := Ch.small
    grind
  have M1 := (MV_facts H).2.1
  have uMV : UM al be m ≤ MV al be m / 1000 := by
    have := Rat.mul_le_mul_of_nonneg_right (show p2 (-53) ≤ 1 / 1000 by grind) (show 0 ≤ MV al be m by grind)
    grind
  have r24 := rn_p2 24 (by omega)
  rw [nums.1] at r24
  have r25 := rn_p2 25 (by omega)
  rw [nums.2.1] at r25
  have big := nums.2.2
  have qa := pf_quo A.1 f2 (by rw [v2]; grind)
  have qb := pf_quo B.1 f2 (by rw [v2]; grind)
  rw [v2] at qa qb
  obtain ⟨fa, ra⟩ := qa.small (by grind) (by grind)
  obtain ⟨fb, rb⟩ := qb.small (by grind) (by grind)
  have ma := ra.mono r24 (by grind)
  have ma' := r24.neg.mono ra (by grind)
  have mb := rb.mono r24 (by grind)
  have mb' := r24.neg.mono rb (by grind)
  have ea := ra.err (b := MV al be m) (by grind) (by grind)
  have eb := rb.err (b := MV al be m) (by grind) (by grind)
  rw [← eu] at ea eb
  obtain ⟨fm, rm⟩ := (pf_add fa fb).small (by grind) (by grind)
  have mm := rm.mono r25 (by grind)
  have mm' := r25.neg.mono rm (by grind)
  have em := rm.err (b := 2 * MV al be m) (by grind) (by grind)
  rw [show p2 (-53) * (2 * MV al be m) = 2 * UM al be m by rw [eu]; grind] at em
  have fmid : Fl.Fin (midR al i) := fm
  have vmid : val (midR al i) = val (pf .add (pf .quo (al.getD i 0) 4611686018427387904) (pf .quo (al.getD (i + 1) 0) 4611686018427387904)) := rfl
  rw [← vmid] at em mm mm'
  have qs := pf_add fmid z.1
  have qd := pf_sub fmid z.1
  rw [z.2] at qs qd
  obtain ⟨b1, r1⟩ := bd_K qs (by grind) (by grind)
  obtain ⟨b2, r2⟩ := bd_K qd (by grind) (by grind)
  have e1 := r1.err (b := 3 * MV al be m) (by grind) (by grind)
  have e2 := r2.err (b := 3 * MV al be m) (by grind) (by grind)
  rw [show p2 (-53) * (3 * MV al be m) = 3 * UM al be m by rw [eu]; grind] at e1 e2
  exact ⟨fa, fb, fmid, b1, by grind, b2, by grind⟩

theorem gh_facts (H : InpB al be m) (o64 : W64 be) (j : Nat) (hj : j ≤ m) : Bd (ghF al be m j) 50331648 ∧ Bd (glF al be m j) 50331648 ∧
    ∀ i, i < j → val (al.getD i 0) + ro1 be i + ro2 be m i ≤ val (ghF al be m j) + 4 * UM al be m ∧ val (glF al be m j) ≤ val (al.getD i 0) - ro1 be i - ro2 be m i + 4 * UM al be m := by
  induction j with
  | zero =>
    have := (H.al 0 H.m1).mono (show p2 24 ≤ 50331648 by rw [nums.1]; grind)
    exact ⟨this, this, fun i hi => by omega⟩
  | succ j ih =>
    obtain ⟨b1, b2, a⟩ := ih (by omega)
    obtain ⟨d1, d2, d3, d4⟩ := disc4 H o64 (show j < m by omega)
    obtain ⟨e1, m1, m2⟩ := zmax_facts b1.1 d1.1
    obtain ⟨e2, n1, n2⟩ := zmin_facts b2.1 d3.1
    show Bd (zmaxF _ _) _ ∧ Bd (zminF _ _) _ ∧ ∀ i, i < j + 1 → _ ≤ val (zmaxF _ _) + _ ∧ val (zminF _ _) ≤ _
    refine ⟨?_, ?_, fun i hi => ?_⟩
    · rcases e1 with e | e <;> rw [e] <;> assumption
    · rcases e2 with e | e <;> rw [e] <;> assumption
    · by_cases h : i = j
      · subst h; constructor <;> grind
      · have := a i (by omega); constructor <;> grind

theorem rh_facts (H : InpB al be m) (o64 : W64 be) {C D : Rat} (h1 : ∀ i, i < m → val (al.getD i 0) ≤ C ∧ D ≤ val (al.getD i 0))
    (h2 : ∀ i, i + 1 < m → (val (al.getD i 0) + val (al.getD (i + 1) 0)) / 2 + aV (be.getD i 0) + 8 * UM al be m ≤ C ∧ D ≤ (val (al.getD i 0) + val (al.getD (i + 1) 0)) / 2 - aV (be.getD i 0) - 8 * UM al be m)
    (j : Nat) (hj : j ≤ m) : Bd (rhF al be m j) 50331648 ∧ val (rhF al be m j) ≤ C ∧ Bd (rlF al be m j) 50331648 ∧ D ≤ val (rlF al be m j) := by
  induction j with
  | zero =>
    have := (H.al 0 H.m1).mono (show p2 24 ≤ 50331648 by rw [nums.1]; grind)
    exact ⟨this, (h1 0 H.m1).1, this, (h1 0 H.m1).2⟩
  | succ j ih =>
    obtain ⟨b1, c1, b2, c2⟩ := ih (by omega)
    have A := (H.al j (by omega)).mono (show p2 24 ≤ 50331648 by rw [nums.1]; grind)
    have g := h1 j (by omega)
    obtain ⟨e1, _⟩ := zmax_facts b1.1 A.1
    obtain ⟨e2, _⟩ := zmin_facts b2.1 A.1
    have x1 : Bd (zmaxF (rhF al be m j) (al.getD j 0)) 50331648 ∧ val (zmaxF (rhF al be m j) (al.getD j 0)) ≤ C := by
      rcases e1 with e | e <;> rw [e]
      · exact ⟨b1, c1⟩
      · exact ⟨A, g.1⟩
    have x2 : Bd (zminF (rlF al be m j) (al.getD j 0)) 50331648 ∧ D ≤ val (zminF (rlF al be m j) (al.getD j 0)) := by
      rcases e2 with e | e <;> rw [e]
      · exact ⟨b2, c2⟩
      · exact ⟨A, g.2⟩
    unfold rhF rlF
    by_cases h : j + 1 < m
    · rw [if_pos h, if_pos h]
      obtain ⟨_, _, _, p1, p2', p3, p4⟩ := mid4 H o64 h
      have k := h2 j h
      obtain ⟨y1, _⟩ := zmax_facts x1.1.1 p1.1
      obtain ⟨y2, _⟩ := zmin_facts x2.1.1 p3.1
      have z1 : Bd (zmaxF (zmaxF (rhF al be m j) (al.getD j 0)) (pf .add (midR al j) (zabsF (be.getD j 0)))) 50331648 ∧ val (zmaxF (zmaxF (rhF al be m j) (al.getD j 0)) (pf .add (midR al j) (zabsF (be.getD j 0)))) ≤ C := by
        rcases y1 with e | e <;> rw [e]
        · exact x1
        · exact ⟨p1, by grind⟩
      have z2 : Bd (zminF (zminF (rlF al be m j) (al.getD j 0)) (pf .sub (midR al j) (zabsF (be.getD j 0)))) 50331648 ∧ D ≤ val (zminF (zminF (rlF al be m j) (al.getD j 0)) (pf .sub (midR al j) (zabsF (be.getD j 0)))) := by
        rcases y2 with e | e <;> rw [e]
        · exact x2
        · exact ⟨p3, by grind⟩
      exact ⟨z1.1, z1.2, z2.1, z2.2⟩
    · rw [if_neg h, if_neg h]
      exact ⟨x1.1, x1.2, x2.1, x2.2⟩
end

/-- what the last line asks -/
structure Fine4 (al be : List Nat) (m hi lo he le : Nat) : Prop where
  f1 : Fl.Fin (pf .sub (rhF al be m m) (slF al be m))
  f2 : Fl.Fin (pf .add (ghF al be m m) (slF al be m))
  f3 : Fl.Fin (pf .add (rlF al be m m) (slF al be m))
  f4 : Fl.Fin (pf .sub (glF al be m m) (slF al be m))
  f5 : Fl.Fin (pf .add hi (slF al be m))
  f6 : Fl.Fin (lastF be m)
  c1 : geF hi (pf .sub (rhF al be m m) (slF al be m)) = true
  c2 : leF hi (pf .add (ghF al be m m) (slF al be m)) = true
  c3 : leF lo (pf .add (rlF al be m m) (slF al be m)) = true
  c4 : geF lo (pf .sub (glF al be m m) (slF al be m)) = true
  c5 : leF lo (pf .add hi (slF al be m)) = true
  c6 : gtF (zabsF he) (lastF be m) = false
  c7 : gtF (zabsF le) (lastF be m) = false
end Go.Proofs.Qxb6605993a
