/- solveShifted: NaNs stay; zeros stay; the back substitution row by row. -/
import Derived.Test.Qxb6605993aSolveP
import Derived.Test.Qxb6605993aEigF
namespace Go.Proofs.Qxb6605993a
open Ieee Fl

theorem val_m52 : val 4372995238176751616 = p2 (-52) := by
  have := val_at 970 4503599627370496 (Or.inr (by omega)) (by omega) (by omega)
  rw [show 970 * 4503599627370496 + 4503599627370496 = 4372995238176751616 from rfl] at this
  rw [this, show ((4503599627370496 : Nat) : Rat) = p2 52 by rw [p2_52]; rfl, ← p2_add]; rfl
theorem fin_m52 : Fl.Fin 4372995238176751616 := fin_at 970 4503599627370496 (by omega) (by omega)

theorem tiny_facts {th : Nat} {k : Int} (h : Bd th (p2 k)) (hk : 0 ≤ k) (hk2 : k ≤ 26) : Fl.Fin (tinyF th) ∧ p2 (-52) ≤ val (tinyF th) ∧ val (tinyF th) ≤ p2 (k - 52) := by
  have h1 := p2_mono hk
  rw [p2_zero] at h1
  have ha := abs_val th
  have hm : Fl.Fin (mx1 th) ∧ 1 ≤ val (mx1 th) ∧ val (mx1 th) ≤ p2 k := by
    unfold mx1
    rw [gt_order (fin_absF h.1) fin_one, val_one]
    by_cases hg : 1 < val (absF th)
    · rw [decide_eq_true hg, if_pos rfl]
      refine ⟨fin_absF h.1, by grind, ?_⟩
      have := h.2; grind
    · rw [decide_eq_false hg, if_neg (by decide), val_one]
      exact ⟨fin_one, by grind, h1⟩
  have hr := pf_mul fin_m52 hm.1
  rw [val_m52] at hr
  have P := p2_pos (-52)
  have r1 := Rat.mul_le_mul_of_nonneg_left hm.2.1 (Rat.le_of_lt P)
  have r2 := Rat.mul_le_mul_of_nonneg_left hm.2.2 (Rat.le_of_lt P)
  rw [← p2_add, show (-52 + k : Int) = k - 52 by omega] at r2
  obtain ⟨b, rn⟩ := bd_of hr (k := k - 52) (by omega) (by omega) r2 (by have := p2_pos (k - 52); grind)
  exact ⟨b.1, (rn_p2 (-52) (by omega)).mono rn (by grind), b.2.1⟩

theorem tiny_bd {al of : List Nat} {th m : Nat} (H : Inp al of th m) : Bd (tinyF th) (p2 28) ∧ val (tinyF th) ≠ 0 := by
  obtain ⟨f, a, b⟩ := tiny_facts H.th (by omega) (by omega)
  have := p2_pos (-52)
  have h2 := p2_mono (show (26 : Int) - 52 ≤ 28 by omega)
  exact ⟨⟨f, by grind, by grind⟩, by grind⟩

/-! ### NaNs stay -/
def HasN (xs : List Nat) (m : Nat) : Prop := ∃ j, j < m ∧ isN (xs.getD j 0) = true

theorem swapAt_get {b : List Nat} {i : Nat} (h : i + 1 < b.length) (j : Nat) : (swapAt b i).getD j 0 = if j = i then b.getD (i + 1) 0 else if j = i + 1 then b.getD i 0 else b.getD j 0 := by
  unfold swapAt
  by_cases h1 : j = i
  · subst h1
    rw [getD_set_ne (by omega), getD_set_self (by omega), if_pos rfl]
  · rw [if_neg h1]
    by_cases h2 : j = i + 1
    · subst h2
      rw [getD_set_self (by rw [List.length_set]; exact h), if_pos rfl]
    · rw [getD_set_ne (by omega), getD_set_ne (by omega), if_neg h2]

theorem swapAt_nan {b : List Nat} {i m : Nat} (hl : b.length = m) (h : i + 1 < m) (hn : HasN b m) : HasN (swapAt b i) m := by
  obtain ⟨j, hj, hx⟩ := hn
  by_cases h1 : j = i
  · refine ⟨i + 1, h, ?_⟩
    rw [swapAt_get (by omega), if_neg (by omega), if_pos rfl, ← h1]; exact hx
  · by_cases h2 : j = i + 1
    · refine ⟨i, by omega, ?_⟩
      rw [swapAt_get (by omega), if_pos rfl, ← h2]; exact hx
    · refine ⟨j, hj, ?_⟩
      rw [swapAt_get (by omega), if_neg h1, if_neg h2]; exact hx

theorem elim_nan {i ti c0 c1 c2 n0 n1 n2 m : Nat} {b u0 u1 u2 : List Nat} (hl : b.length = m) (hn : HasN b m) : HasN (elim i ti c0 c1 c2 n0 n1 n2 b u0 u1 u2).b m := by
  obtain ⟨j, hj, hx⟩ := hn
  refine ⟨j, hj, ?_⟩
  show isN ((b.set (i + 1) _).getD j 0) = true
  by_cases h : i + 1 = j
  · subst h
    rw [getD_set_self (by omega), pf_nan (Or.inl hx)]; exact isN_NAN
  · rw [getD_set_ne h]; exact hx

theorem rounds_nan {al of : List Nat} {th ti m : Nat} {b : List Nat} (hl : b.length = m) (hn : HasN b m) (k : Nat) (hk : k < m) : HasN (rounds al of th ti m (start al of th m b) k).b m := by
  induction k with
  | zero => exact hn
  | succ k ih =>
    have hb : (rounds al of th ti m (start al of th m b) k).b.length = m := by
      have := (rounds_lens (start_lens al of th m b) k (al := al) (of := of) (th := th) (ti := ti) (M := m)).1
      omega
    show HasN (round al of th ti m k _).b m
    unfold round
    split
    · exact elim_nan (by simpa [swapAt] using hb) (swapAt_nan hb (by omega) (ih (by omega)))
    · exact elim_nan hb (ih (by omega))

/-- one row of the back substitution as a function of its numbers -/
def backv (m i u0 u1 u2 b y1 y2 : Nat) : Nat :=
  pf .quo (if i + 2 < m then pf .sub (if i + 1 < m then pf .sub b (pf .mul u1 y1) else b) (pf .mul u2 y2) else (if i + 1 < m then pf .sub b (pf .mul u1 y1) else b)) u0

theorem back1_eq (u0 u1 u2 : List Nat) (m i : Nat) (b : List Nat) : back1 u0 u1 u2 m i b = backv m i (u0.getD i 0) (u1.getD i 0) (u2.getD i 0) (b.getD i 0) (b.getD (i + 1) 0) (b.getD (i + 2) 0) := rfl

/-- every row of the answer solves its equation -/
theorem backs_spec (u0 u1 u2 : List Nat) (m : Nat) (b : List Nat) (hl : b.length = m) (k : Nat) (hk : k ≤ m) :
    (∀ j, j + k < m → (backs u0 u1 u2 m b k).getD j 0 = b.getD j 0) ∧
    (∀ i, m ≤ i + k → i < m → (backs u0 u1 u2 m b k).getD i 0 = backv m i (u0.getD i 0) (u1.getD i 0) (u2.getD i 0) (b.getD i 0) ((backs u0 u1 u2 m b k).getD (i + 1) 0) ((backs u0 u1 u2 m b k).getD (i + 2) 0)) := by
  induction k with
  | zero => exact ⟨fun j _ => rfl, fun i h1 h2 => by omega⟩
  | succ k ih =>
    obtain ⟨i1, i2⟩ := ih (by omega)
    have hlen : (backs u0 u1 u2 m b k).length = m := by rw [backs_length]; exact hl
    have e : backs u0 u1 u2 m b (k + 1) = (backs u0 u1 u2 m b k).set (m - 1 - k) (back1 u0 u1 u2 m (m - 1 - k) (backs u0 u1 u2 m b k)) := rfl
    constructor
    · intro j hj
      rw [e, getD_set_ne (by omega)]
      exact i1 j (by omega)
    · intro i h1 h2
      rw [e]
      by_cases hi : i = m - 1 - k
      · subst hi
        rw [getD_set_self (by omega), getD_set_ne (by omega), getD_set_ne (by omega), back1_eq, i1 (m - 1 - k) (by omega)]
      · rw [getD_set_ne (by omega), getD_set_ne (by omega), getD_set_ne (by omega)]
        exact i2 i (by omega) h2

theorem backv_nan {m i u0 u1 u2 b y1 y2 : Nat} (h : isN b = true) : backv m i u0 u1 u2 b y1 y2 = NAN := by
  unfold backv
  have h1 : isN (if i + 1 < m then pf .sub b (pf .mul u1 y1) else b) = true := by
    split
    · rw [pf_nan (Or.inl h)]; exact isN_NAN
    · exact h
  have h2 : isN (if i + 2 < m then pf .sub (if i + 1 < m then pf .sub b (pf .mul u1 y1) else b) (pf .mul u2 y2) else (if i + 1 < m then pf .sub b (pf .mul u1 y1) else b)) = true := by
    split
    · rw [pf_nan (Or.inl h1)]; exact isN_NAN
    · exact h1
  exact pf_nan (Or.inl h2)

/-- the factor behind the elimination -/
def facU0 (al of : List Nat) (th m : Nat) (b : List Nat) : List Nat := lastP (rounds al of th (tinyF th) m (start al of th m b) (m - 1)) (tinyF th) m
def facU1 (al of : List Nat) (th m : Nat) (b : List Nat) : List Nat := (rounds al of th (tinyF th) m (start al of th m b) (m - 1)).u1
def facU2 (al of : List Nat) (th m : Nat) (b : List Nat) : List Nat := (rounds al of th (tinyF th) m (start al of th m b) (m - 1)).u2
def facB (al of : List Nat) (th m : Nat) (b : List Nat) : List Nat := (rounds al of th (tinyF th) m (start al of th m b) (m - 1)).b

theorem facB_length {al of : List Nat} {th m : Nat} {b : List Nat} (hl : b.length = m) : (facB al of th m b).length = m := by
  have := (rounds_lens (start_lens al of th m b) (m - 1) (al := al) (of := of) (th := th) (ti := tinyF th) (M := m)).1
  unfold facB; omega

theorem solve_row {al of : List Nat} {th m : Nat} {b : List Nat} (hl : b.length = m) (i : Nat) (hi : i < m) :
    (solveF al of th m b).getD i 0 = backv m i ((facU0 al of th m b).getD i 0) ((facU1 al of th m b).getD i 0) ((facU2 al of th m b).getD i 0) ((facB al of th m b).getD i 0) ((solveF al of th m b).getD (i + 1) 0) ((solveF al of th m b).getD (i + 2) 0) :=
  (backs_spec (facU0 al of th m b) (facU1 al of th m b) (facU2 al of th m b) m (facB al of th m b) (facB_length hl) m (Nat.le_refl _)).2 i (by omega) hi

theorem solve_nan {al of : List Nat} {th m : Nat} {b : List Nat} (hl : b.length = m) (hn : HasN b m) : HasN (solveF al of th m b) m := by
  obtain ⟨j, hj, hx⟩ := rounds_nan (al := al) (of := of) (th := th) (ti := tinyF th) hl hn (m - 1) (by obtain ⟨j, hj, _⟩ := hn; omega)
  refine ⟨j, hj, ?_⟩
  have hx' : isN ((facB al of th m b).getD j 0) = true := hx
  rw [solve_row hl j hj, backv_nan hx']; exact isN_NAN

/-- the factor's rows are bounded, its pivots not 0 -/
theorem fac_bd {al of : List Nat} {th m : Nat} {b : List Nat} (H : Inp al of th m) (hm : 1 ≤ m) (i : Nat) (hi : i < m) :
    Bd ((facU0 al of th m b).getD i 0) (p2 28) ∧ val ((facU0 al of th m b).getD i 0) ≠ 0 ∧ (i + 1 < m → Bd ((facU1 al of th m b).getD i 0) (p2 27) ∧ Bd ((facU2 al of th m b).getD i 0) (p2 24)) := by
  obtain ⟨t1, t2⟩ := tiny_bd H
  have hs := rounds_inv (b := b) H hm t1 t2 (m - 1) (by omega)
  have hl := rounds_lens (start_lens al of th m b) (m - 1) (al := al) (of := of) (th := th) (ti := tinyF th) (M := m)
  have e0 : facU0 al of th m b = (rounds al of th (tinyF th) m (start al of th m b) (m - 1)).u0.set (m - 1) (pivF (tinyF th) (rounds al of th (tinyF th) m (start al of th m b) (m - 1)).c0) := rfl
  have hp : Bd (pivF (tinyF th) (rounds al of th (tinyF th) m (start al of th m b) (m - 1)).c0) (p2 28) ∧ val (pivF (tinyF th) (rounds al of th (tinyF th) m (start al of th m b) (m - 1)).c0) ≠ 0 := by
    unfold pivF
    rw [zero_order hs.c0.1]
    by_cases hz : val (rounds al of th (tinyF th) m (start al of th m b) (m - 1)).c0 = 0
    · rw [decide_eq_true hz, if_pos rfl]; exact ⟨t1, t2⟩
    · rw [decide_eq_false hz, if_neg (by decide)]; exact ⟨hs.c0, hz⟩
  have e1 : facU1 al of th m b = (rounds al of th (tinyF th) m (start al of th m b) (m - 1)).u1 := rfl
  have e2 : facU2 al of th m b = (rounds al of th (tinyF th) m (start al of th m b) (m - 1)).u2 := rfl
  rw [e0, e1, e2]
  generalize rounds al of th (tinyF th) m (start al of th m b) (m - 1) = s at *
  by_cases h : m - 1 = i
  · rw [h, getD_set_self (by rw [hl.2.1]; exact hi)]
    exact ⟨hp.1, hp.2, fun h' => by omega⟩
  · rw [getD_set_ne h]
    have := hs.u i (by omega)
    exact ⟨this.1, this.2.1, fun _ => this.2.2⟩

end Go.Proofs.Qxb6605993a
