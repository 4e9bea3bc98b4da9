/- solveShifted on a diagonal matrix. -/
import Derived.Test.Qxb6605993aEigP
namespace Go.Proofs.Qxb6605993a
open Ieee Fl

/-- finite, of value v -/
def Eqv (x : Nat) (v : Rat) : Prop := Fl.Fin x ∧ val x = v

theorem Eqv.mulL {l z : Nat} (hl : Eqv l 0) (hz : Fl.Fin z) : Eqv (pf .mul l z) 0 := by
  have h := pf_mul hl.1 hz
  rw [hl.2, Rat.zero_mul] at h
  have p := p2_pos 1000
  obtain ⟨f, r⟩ := h.small (by grind) (by grind)
  exact ⟨f, r.eq rn_zero⟩
theorem Eqv.quo {l z : Nat} (hl : Eqv l 0) (hz : Fl.Fin z) (h0 : val z ≠ 0) : Eqv (pf .quo l z) 0 := quo_zero hl.1 hz hl.2 h0
theorem Eqv.subZ {x z : Nat} {K : Rat} (hx : Bd x K) (hK : K ≤ p2 1000) (hz : Eqv z 0) : Eqv (pf .sub x z) (val x) := by
  have h := pf_sub hx.1 hz.1
  rw [hz.2, show val x - 0 = val x by grind] at h
  have := hx.2
  obtain ⟨f, r⟩ := h.small (by grind) (by grind)
  exact ⟨f, r.eq (rn_val x)⟩

theorem Bd.of {x : Nat} {v K : Rat} (h : Eqv x v) (h1 : v ≤ K) (h2 : -K ≤ v) : Bd x K := ⟨h.1, by rw [h.2]; exact h1, by rw [h.2]; exact h2⟩
theorem Eqv.bd {x y : Nat} {K : Rat} (h : Eqv x (val y)) (hy : Bd y K) : Bd x K := Bd.of h hy.2.1 hy.2.2

/-- the pivot's value -/
def dV (al : List Nat) (th i : Nat) : Rat := if val (pf .sub (al.getD i 0) th) = 0 then val (tinyF th) else val (pf .sub (al.getD i 0) th)

/-- what holds ahead of round k of a diagonal matrix -/
structure InvD (al : List Nat) (th m : Nat) (b : List Nat) (s : St) (k : Nat) : Prop where
  b : ∀ j, j < m → Eqv (s.b.getD j 0) (val (b.getD j 0))
  c0 : Eqv s.c0 (val (pf .sub (al.getD k 0) th))
  c1 : Eqv s.c1 0
  c2 : s.c2 = 0
  u : ∀ j, j < k → Eqv (s.u0.getD j 0) (dV al th j) ∧ Eqv (s.u1.getD j 0) 0 ∧ Eqv (s.u2.getD j 0) 0

theorem piv_val {al : List Nat} {th i c0 : Nat} (ht : Fl.Fin (tinyF th)) (hc : Eqv c0 (val (pf .sub (al.getD i 0) th))) : Eqv (pivF (tinyF th) c0) (dV al th i) := by
  unfold pivF dV
  rw [zero_order hc.1, hc.2]
  by_cases h : val (pf .sub (al.getD i 0) th) = 0
  · rw [decide_eq_true h, if_pos rfl, if_pos h]; exact ⟨ht, rfl⟩
  · rw [decide_eq_false h, if_neg (by decide), if_neg h]; exact hc

theorem sub_bd {al of : List Nat} {th m : Nat} (H : Inp al of th m) {i : Nat} (hi : i < m) : Bd (pf .sub (al.getD i 0) th) (p2 27) := by
  obtain ⟨n24, n26, n27, n28⟩ := p2_nums
  exact ((H.al i hi).sub H.th (by omega) (by omega) (by rw [n24, n26, n27]; grind)).1

theorem dV_ne {al of : List Nat} {th m : Nat} (H : Inp al of th m) (i : Nat) : dV al th i ≠ 0 := by
  unfold dV
  split
  · exact (tiny_bd H).2
  · assumption

theorem round_diag {al of : List Nat} {th m k : Nat} {b : List Nat} {s : St} (H : Inp al of th m) (hz : ∀ j, j + 1 < m → val (of.getD j 0) = 0)
    (hb : ∀ j, j < m → Bd (b.getD j 0) (p2 1)) (hk : k + 1 < m) (hl : s.b.length = m) (l0 : k < s.u0.length) (l1 : k < s.u1.length) (l2 : k < s.u2.length)
    (hs : InvD al th m b s k) : InvD al th m b (round al of th (tinyF th) m k s) (k + 1) := by
  have m27 := p2_mono (show (27 : Int) ≤ 1000 by omega)
  have m1 := p2_mono (show (1 : Int) ≤ 1000 by omega)
  have pp := p2_pos 1000
  have n0 : Eqv (nx0 of k) 0 := ⟨(H.of k hk).1, hz k hk⟩
  have n2 : Eqv (nx2 of m k) 0 := by
    unfold nx2; split
    · rename_i h; exact ⟨(H.of (k + 1) (by omega)).1, hz (k + 1) (by omega)⟩
    · exact ⟨fin_zero, val_zero⟩
  have hsw : gtF (absF (nx0 of k)) (absF s.c0) = false := by
    cases h : gtF (absF (nx0 of k)) (absF s.c0)
    · rfl
    · exfalso
      have h1 := gt_abs n0.1 hs.c0.1 h
      have h2 := abs_val (nx0 of k)
      have h3 := abs_val s.c0
      have := n0.2
      grind
  have e : round al of th (tinyF th) m k s = elim k (tinyF th) s.c0 s.c1 s.c2 (nx0 of k) (nx1 al th k) (nx2 of m k) s.b s.u0 s.u1 s.u2 := by
    unfold round; rw [hsw, if_neg (by decide)]
  have hp := piv_val (tiny_bd H).1.1 hs.c0
  have hl0 : Eqv (pf .quo (nx0 of k) (pivF (tinyF th) s.c0)) 0 := n0.quo hp.1 (by rw [hp.2]; exact dV_ne H k)
  rw [e]
  constructor
  · intro j hj
    have eb : (elim k (tinyF th) s.c0 s.c1 s.c2 (nx0 of k) (nx1 al th k) (nx2 of m k) s.b s.u0 s.u1 s.u2).b = s.b.set (k + 1) (pf .sub (s.b.getD (k + 1) 0) (pf .mul (pf .quo (nx0 of k) (pivF (tinyF th) s.c0)) (s.b.getD k 0))) := rfl
    rw [eb]
    by_cases hj1 : j = k + 1
    · subst hj1
      rw [getD_set_self (by omega)]
      have := Eqv.subZ ((hs.b (k + 1) hk).bd (hb _ hk)) m1 (hl0.mulL (hs.b k (by omega)).1)
      rw [(hs.b (k + 1) hk).2] at this
      exact this
    · rw [getD_set_ne (by omega)]; exact hs.b j hj
  · show Eqv (pf .sub (nx1 al th k) (pf .mul (pf .quo (nx0 of k) (pivF (tinyF th) s.c0)) s.c1)) _
    exact Eqv.subZ (sub_bd H hk) m27 (hl0.mulL hs.c1.1)
  · show Eqv (pf .sub (nx2 of m k) (pf .mul (pf .quo (nx0 of k) (pivF (tinyF th) s.c0)) s.c2)) 0
    have := Eqv.subZ (Bd.of (K := p2 1000) n2 (by grind) (by grind)) Rat.le_refl (hl0.mulL (show Fl.Fin s.c2 by rw [hs.c2]; exact fin_zero))
    rw [n2.2] at this
    exact this
  · rfl
  · intro j hj
    have f0 : (elim k (tinyF th) s.c0 s.c1 s.c2 (nx0 of k) (nx1 al th k) (nx2 of m k) s.b s.u0 s.u1 s.u2).u0 = s.u0.set k (pivF (tinyF th) s.c0) := rfl
    have f1 : (elim k (tinyF th) s.c0 s.c1 s.c2 (nx0 of k) (nx1 al th k) (nx2 of m k) s.b s.u0 s.u1 s.u2).u1 = s.u1.set k s.c1 := rfl
    have f2 : (elim k (tinyF th) s.c0 s.c1 s.c2 (nx0 of k) (nx1 al th k) (nx2 of m k) s.b s.u0 s.u1 s.u2).u2 = s.u2.set k s.c2 := rfl
    rw [f0, f1, f2]
    by_cases ej : k = j
    · subst ej
      rw [getD_set_self l0, getD_set_self l1, getD_set_self l2]
      exact ⟨hp, hs.c1, by rw [hs.c2]; exact ⟨fin_zero, val_zero⟩⟩
    · rw [getD_set_ne ej, getD_set_ne ej, getD_set_ne ej]
      exact hs.u j (by omega)

theorem rounds_diag {al of : List Nat} {th m : Nat} {b : List Nat} (H : Inp al of th m) (hm : 1 ≤ m) (hz : ∀ j, j + 1 < m → val (of.getD j 0) = 0)
    (hl : b.length = m) (hb : ∀ j, j < m → Bd (b.getD j 0) (p2 1)) (k : Nat) (hk : k < m) : InvD al th m b (rounds al of th (tinyF th) m (start al of th m b) k) k := by
  induction k with
  | zero =>
    refine ⟨fun j hj => ⟨(hb j hj).1, rfl⟩, ⟨(sub_bd H hm).1, rfl⟩, ?_, rfl, fun j hj => by omega⟩
    show Eqv (if 1 < m then of.getD 0 0 else 0) 0
    split
    · rename_i h; exact ⟨(H.of 0 h).1, hz 0 h⟩
    · exact ⟨fin_zero, val_zero⟩
  | succ k ih =>
    have hL := rounds_lens (start_lens al of th m b) k (al := al) (of := of) (th := th) (ti := tinyF th) (M := m)
    unfold Lens at hL
    exact round_diag H hz hb (by omega) (by omega) (by omega) (by omega) (by omega) (ih (by omega))

theorem fac_diag {al of : List Nat} {th m : Nat} {b : List Nat} (H : Inp al of th m) (hm : 1 ≤ m) (hz : ∀ j, j + 1 < m → val (of.getD j 0) = 0)
    (hl : b.length = m) (hb : ∀ j, j < m → Bd (b.getD j 0) (p2 1)) (i : Nat) (hi : i < m) :
    Eqv ((facU0 al of th m b).getD i 0) (dV al th i) ∧ Eqv ((facB al of th m b).getD i 0) (val (b.getD i 0)) ∧ (i + 1 < m → Eqv ((facU1 al of th m b).getD i 0) 0 ∧ Eqv ((facU2 al of th m b).getD i 0) 0) := by
  have hs := rounds_diag H hm hz hl hb (m - 1) (by omega)
  have hL := rounds_lens (start_lens al of th m b) (m - 1) (al := al) (of := of) (th := th) (ti := tinyF th) (M := m)
  have e0 : facU0 al of th m b = (rounds al of th (tinyF th) m (start al of th m b) (m - 1)).u0.set (m - 1) (pivF (tinyF th) (rounds al of th (tinyF th) m (start al of th m b) (m - 1)).c0) := rfl
  have e1 : facU1 al of th m b = (rounds al of th (tinyF th) m (start al of th m b) (m - 1)).u1 := rfl
  have e2 : facU2 al of th m b = (rounds al of th (tinyF th) m (start al of th m b) (m - 1)).u2 := rfl
  have e3 : facB al of th m b = (rounds al of th (tinyF th) m (start al of th m b) (m - 1)).b := rfl
  rw [e0, e1, e2, e3]
  unfold Lens at hL
  have hp := piv_val (tiny_bd H).1.1 hs.c0
  generalize rounds al of th (tinyF th) m (start al of th m b) (m - 1) = s at *
  refine ⟨?_, hs.b i hi, fun h => (hs.u i (by omega)).2⟩
  by_cases h : m - 1 = i
  · subst h
    rw [getD_set_self (by omega)]; exact hp
  · rw [getD_set_ne h]; exact (hs.u i (by omega)).1

theorem p2_53 : p2 (-52) * p2 54 = p2 2 ∧ p2 1 = 2 ∧ p2 2 = 4 := by
  refine ⟨by rw [← p2_add]; rfl, ?_, ?_⟩
  · rw [show (1 : Int) = ((1 : Nat) : Int) from rfl, p2_nat]; rfl
  · rw [show (2 : Int) = ((2 : Nat) : Int) from rfl, p2_nat]; rfl

/-- a quotient, bounded -/
theorem quo_bd {x d B e : Rat} (he : 0 < e) (hd : e ≤ d ∨ d ≤ -e) (x1 : x ≤ e * B) (x2 : -(e * B) ≤ x) (hB : 0 ≤ B) : x / d ≤ B ∧ -B ≤ x / d := by
  have hd0 : d ≠ 0 := by grind
  have hq : x / d * d = x := Rat.div_mul_cancel hd0
  generalize x / d = q at *
  have key : ∀ r f y : Rat, e ≤ f → r * f = y → y ≤ e * B → r ≤ B := by
    intro r f y hf hy h1
    apply Classical.byContradiction
    intro hc
    have hc' : B < r := by grind
    have h2 := Rat.mul_le_mul_of_nonneg_left hf (show 0 ≤ r by grind)
    have h3 := Rat.mul_lt_mul_of_pos_right hc' he
    grind
  rcases hd with hd | hd
  · have h1 := key q d x hd hq x1
    have h2 := key (-q) d (-x) hd (by grind) (by grind)
    exact ⟨h1, by grind⟩
  · have h1 := key q (-d) (-x) (by grind) (by grind) (by grind)
    have h2 := key (-q) (-d) x (by grind) (by grind) (by grind)
    exact ⟨h1, by grind⟩

/-- the answer, entry by entry -/
theorem solve_diag {al of : List Nat} {th m : Nat} {b : List Nat} (H : Inp al of th m) (hm : 1 ≤ m) (hz : ∀ j, j + 1 < m → val (of.getD j 0) = 0)
    (hl : b.length = m) (hb : ∀ j, j < m → Bd (b.getD j 0) (p2 1)) (hd : ∀ j, j < m → p2 (-52) ≤ dV al th j ∨ dV al th j ≤ -p2 (-52)) (t : Nat) :
    ∀ i, m ≤ i + t → i < m → Fl.Fin ((solveF al of th m b).getD i 0) ∧ RN (val (b.getD i 0) / dV al th i) (val ((solveF al of th m b).getD i 0)) := by
  induction t with
  | zero => intro i h1 h2; omega
  | succ t ih =>
    intro i h1 h2
    by_cases hlt : m ≤ i + t
    · exact ih i hlt h2
    obtain ⟨f0, fb, f12⟩ := fac_diag H hm hz hl hb i h2
    rw [solve_row hl i h2]
    generalize (facU0 al of th m b).getD i 0 = u0 at *
    generalize (facU1 al of th m b).getD i 0 = u1 at *
    generalize (facU2 al of th m b).getD i 0 = u2 at *
    generalize (facB al of th m b).getD i 0 = bb at *
    have m1 := p2_mono (show (1 : Int) ≤ 1000 by omega)
    unfold backv
    have s1 : Eqv (if i + 1 < m then pf .sub bb (pf .mul u1 ((solveF al of th m b).getD (i + 1) 0)) else bb) (val (b.getD i 0)) := by
      split
      · rename_i h
        have := Eqv.subZ (fb.bd (hb i h2)) m1 ((f12 h).1.mulL (ih (i + 1) (by omega) h).1)
        rw [fb.2] at this; exact this
      · exact fb
    generalize (if i + 1 < m then pf .sub bb (pf .mul u1 ((solveF al of th m b).getD (i + 1) 0)) else bb) = sA at s1
    have s2 : Eqv (if i + 2 < m then pf .sub sA (pf .mul u2 ((solveF al of th m b).getD (i + 2) 0)) else sA) (val (b.getD i 0)) := by
      split
      · rename_i h
        have := Eqv.subZ (s1.bd (hb i h2)) m1 ((f12 (by omega)).2.mulL (ih (i + 2) (by omega) h).1)
        rw [s1.2] at this; exact this
      · exact s1
    generalize (if i + 2 < m then pf .sub sA (pf .mul u2 ((solveF al of th m b).getD (i + 2) 0)) else sA) = sB at s2
    have hq := pf_quo s2.1 f0.1 (by rw [f0.2]; exact dV_ne H i)
    rw [s2.2, f0.2] at hq
    obtain ⟨q1, q2, q3⟩ := p2_53
    have hbi := (hb i h2).2
    have m54 := p2_mono (show (54 : Int) ≤ 1000 by omega)
    have := quo_bd (B := p2 54) (p2_pos (-52)) (hd i h2) (x := val (b.getD i 0)) (by grind) (by grind) (Rat.le_of_lt (p2_pos _))
    exact hq.small (by grind) (by grind)
end Go.Proofs.Qxb6605993a
