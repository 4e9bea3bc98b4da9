/- solveShifted: zeros stay; a right side that is not tiny has a solution that is not tiny. -/
import Derived.Test.Qxb6605993aSolveQ
namespace Go.Proofs.Qxb6605993a
open Ieee Fl

/-- all entries are zeros -/
def AllZ (xs : List Nat) (m : Nat) : Prop := ∀ j, j < m → Fl.Fin (xs.getD j 0) ∧ val (xs.getD j 0) = 0

theorem mul_zero_val' {l z : Nat} (hl : Fl.Fin l) (hz : Fl.Fin z) (h0 : val z = 0) : Fl.Fin (pf .mul l z) ∧ val (pf .mul l z) = 0 := by
  have h := pf_mul hl hz
  rw [h0, Rat.mul_zero] at h
  have p := p2_pos 1000
  obtain ⟨f, r⟩ := h.small (by grind) (by grind)
  exact ⟨f, r.eq rn_zero⟩
theorem sub_zero_zero {x y : Nat} (hx : Fl.Fin x) (hy : Fl.Fin y) (h0 : val x = 0) (h1 : val y = 0) : Fl.Fin (pf .sub x y) ∧ val (pf .sub x y) = 0 := by
  have h := pf_sub hx hy
  rw [h0, h1] at h
  have p := p2_pos 1000
  have e : (0 : Rat) - 0 = 0 := by grind
  rw [e] at h
  obtain ⟨f, r⟩ := h.small (by grind) (by grind)
  exact ⟨f, r.eq rn_zero⟩
theorem quo_zero {x y : Nat} (hx : Fl.Fin x) (hy : Fl.Fin y) (h0 : val x = 0) (h1 : val y ≠ 0) : Fl.Fin (pf .quo x y) ∧ val (pf .quo x y) = 0 := by
  have h := pf_quo hx hy h1
  rw [h0, Rat.div_def, Rat.zero_mul] at h
  have p := p2_pos 1000
  obtain ⟨f, r⟩ := h.small (by grind) (by grind)
  exact ⟨f, r.eq rn_zero⟩

theorem swapAt_len (b : List Nat) (i : Nat) : (swapAt b i).length = b.length := by simp [swapAt]

theorem swapAt_allZ {b : List Nat} {i m : Nat} (hl : b.length = m) (h : i + 1 < m) (hz : AllZ b m) : AllZ (swapAt b i) m := by
  intro j hj
  rw [swapAt_get (by omega)]
  split
  · exact hz (i + 1) h
  · split
    · exact hz i (by omega)
    · exact hz j hj

theorem elim_b_get (i ti c0 c1 c2 n0 n1 n2 : Nat) (b u0 u1 u2 : List Nat) :
    (elim i ti c0 c1 c2 n0 n1 n2 b u0 u1 u2).b = b.set (i + 1) (pf .sub (b.getD (i + 1) 0) (pf .mul (pf .quo n0 (pivF ti c0)) (b.getD i 0))) := rfl

theorem round_allZ {al of : List Nat} {th ti m k : Nat} {s : St} (H : Inp al of th m) (ht : Bd ti (p2 28)) (ht0 : val ti ≠ 0) (hk : k + 1 < m) (hs : InvS s k) (hl : s.b.length = m) (hz : AllZ s.b m) : AllZ (round al of th ti m k s).b m := by
  obtain ⟨P⟩ := piece_ex (ti := ti) H hk hs
  rw [P.eq, elim_b_get]
  obtain ⟨_, _, hq⟩ := piv_facts ht ht0 P.fc0 P.fn0 P.le
  have hb : AllZ P.b m ∧ P.b.length = m := by
    rcases P.hb with h | h
    · rw [h]; exact ⟨hz, hl⟩
    · rw [h]; exact ⟨swapAt_allZ hl hk hz, by rw [swapAt_len]; exact hl⟩
  intro j hj
  by_cases e : k + 1 = j
  · subst e
    rw [getD_set_self (by rw [hb.2]; exact hk)]
    have z1 := hb.1 (k + 1) hk
    have z0 := hb.1 k (by omega)
    have t := mul_zero_val' hq.1 z0.1 z0.2
    exact sub_zero_zero z1.1 t.1 z1.2 t.2
  · rw [getD_set_ne e]; exact hb.1 j hj

theorem rounds_allZ {al of : List Nat} {th m : Nat} {b : List Nat} (H : Inp al of th m) (hm : 1 ≤ m) (hl : b.length = m) (hz : AllZ b m) (k : Nat) (hk : k < m) : AllZ (rounds al of th (tinyF th) m (start al of th m b) k).b m := by
  obtain ⟨t1, t2⟩ := tiny_bd H
  induction k with
  | zero => exact hz
  | succ k ih =>
    have hb := (rounds_lens (start_lens al of th m b) k (al := al) (of := of) (th := th) (ti := tinyF th) (M := m)).1
    exact round_allZ H t1 t2 hk (rounds_inv H hm t1 t2 k (by omega)) (by omega) (ih (by omega))

theorem solve_allZ {al of : List Nat} {th m : Nat} {b : List Nat} (H : Inp al of th m) (hm : 1 ≤ m) (hl : b.length = m) (hz : AllZ b m) : AllZ (solveF al of th m b) m := by
  have hB : AllZ (facB al of th m b) m := rounds_allZ H hm hl hz (m - 1) (by omega)
  -- from the last row upwards
  have key : ∀ t i, i + t = m - 1 → i < m → Fl.Fin ((solveF al of th m b).getD i 0) ∧ val ((solveF al of th m b).getD i 0) = 0 := by
    intro t
    induction t using Nat.strongRecOn with
    | ind t ih =>
      intro i hit hi
      rw [solve_row hl i hi]
      obtain ⟨f0, f1, f2⟩ := fac_bd (b := b) H hm i hi
      have zb := hB i hi
      unfold backv
      have h1 : Fl.Fin (if i + 1 < m then pf .sub ((facB al of th m b).getD i 0) (pf .mul ((facU1 al of th m b).getD i 0) ((solveF al of th m b).getD (i + 1) 0)) else (facB al of th m b).getD i 0) ∧
          val (if i + 1 < m then pf .sub ((facB al of th m b).getD i 0) (pf .mul ((facU1 al of th m b).getD i 0) ((solveF al of th m b).getD (i + 1) 0)) else (facB al of th m b).getD i 0) = 0 := by
        split
        · rename_i h
          have y := ih (t - 1) (by omega) (i + 1) (by omega) h
          have t1 := mul_zero_val' (f2 h).1.1 y.1 y.2
          exact sub_zero_zero zb.1 t1.1 zb.2 t1.2
        · exact zb
      have h2 : Fl.Fin (if i + 2 < m then pf .sub (if i + 1 < m then pf .sub ((facB al of th m b).getD i 0) (pf .mul ((facU1 al of th m b).getD i 0) ((solveF al of th m b).getD (i + 1) 0)) else (facB al of th m b).getD i 0) (pf .mul ((facU2 al of th m b).getD i 0) ((solveF al of th m b).getD (i + 2) 0)) else (if i + 1 < m then pf .sub ((facB al of th m b).getD i 0) (pf .mul ((facU1 al of th m b).getD i 0) ((solveF al of th m b).getD (i + 1) 0)) else (facB al of th m b).getD i 0)) ∧
          val (if i + 2 < m then pf .sub (if i + 1 < m then pf .sub ((facB al of th m b).getD i 0) (pf .mul ((facU1 al of th m b).getD i 0) ((solveF al of th m b).getD (i + 1) 0)) else (facB al of th m b).getD i 0) (pf .mul ((facU2 al of th m b).getD i 0) ((solveF al of th m b).getD (i + 2) 0)) else (if i + 1 < m then pf .sub ((facB al of th m b).getD i 0) (pf .mul ((facU1 al of th m b).getD i 0) ((solveF al of th m b).getD (i + 1) 0)) else (facB al of th m b).getD i 0)) = 0 := by
        split
        · rename_i h
          have y := ih (t - 2) (by omega) (i + 2) (by omega) h
          have t2 := mul_zero_val' (f2 (by omega)).2.1 y.1 y.2
          exact sub_zero_zero h1.1 t2.1 h1.2 t2.2
        · exact h1
      exact quo_zero h2.1 f0.1 h2.2 f1
  intro j hj
  exact key (m - 1 - j) j (by omega) hj

/-! ### not tiny -/
/-- strictly below a power of two behind the rounding: so ahead of it -/
theorem RN.below {r v : Rat} {k : Int} (h : RN r v) (hk : -1074 ≤ k) (h1 : v < p2 k) (h2 : -p2 k < v) : r < p2 k ∧ -p2 k < r := by
  constructor
  · rcases Rat.le_total (a := p2 k) (b := r) with h3 | h3
    · have := (rn_p2 k hk).mono h h3; exfalso; grind
    · by_cases h4 : r = p2 k
      · rw [h4] at h; have := h.eq (rn_p2 k hk); exfalso; grind
      · grind
  · rcases Rat.le_total (a := r) (b := -p2 k) with h3 | h3
    · have := h.mono (rn_p2 k hk).neg h3; exfalso; grind
    · by_cases h4 : r = -p2 k
      · rw [h4] at h; have := h.eq (rn_p2 k hk).neg; exfalso; grind
      · grind

theorem RNW.rn_fin {r : Rat} {z : Nat} (h : RNW r z) (hz : Fl.Fin z) : RN r (val z) := by
  rcases h.cases with ⟨_, h⟩ | ⟨h, _⟩ | ⟨h, _⟩
  · exact h
  · rw [h] at hz; exact absurd hz (not_fin_inf rfl)
  · rw [h] at hz; exact absurd hz (not_fin_inf rfl)

theorem p2_half (k : Int) : p2 (k + 1) = 2 * p2 k := by rw [p2_succ]; grind

/-- one subtraction undone -/
theorem sub_back {s t v : Nat} {k j : Int} (hk : -1074 ≤ k) (hjk : j ≤ k) (hv : pf .sub s t = v) (hf : Fl.Fin v) (h1 : val v < p2 k) (h2 : -p2 k < val v) (ht : Bd t (p2 j)) :
    Fl.Fin s ∧ val s < p2 (k + 1) ∧ -p2 (k + 1) < val s := by
  rw [← hv] at hf h1 h2
  obtain ⟨fs, ft⟩ := fin_of_sub hf
  have rn := RNW.rn_fin (pf_sub fs ft) hf
  have hb := RN.below rn hk h1 h2
  have hm := p2_mono hjk
  rw [p2_half]
  have := ht.2
  exact ⟨fs, by grind, by grind⟩

theorem abs_mul_le2 {u v A B : Rat} (u1 : u ≤ A) (u2 : -A ≤ u) (v1 : v ≤ B) (v2 : -B ≤ v) : u * v ≤ A * B ∧ -(A * B) ≤ u * v := by
  have a := Rat.mul_nonneg (show 0 ≤ A - u by grind) (show 0 ≤ B + v by grind)
  have b := Rat.mul_nonneg (show 0 ≤ A + u by grind) (show 0 ≤ B - v by grind)
  have c := Rat.mul_nonneg (show 0 ≤ A - u by grind) (show 0 ≤ B - v by grind)
  have d := Rat.mul_nonneg (show 0 ≤ A + u by grind) (show 0 ≤ B + v by grind)
  constructor <;> grind

theorem bd_mul {u y : Nat} {a b : Int} (hu : Bd u (p2 a)) (hy : Bd y (p2 b)) (h1 : -1074 ≤ a + b) (h2 : a + b ≤ 1000) : Bd (pf .mul u y) (p2 (a + b)) ∧ RN (val u * val y) (val (pf .mul u y)) := by
  have := abs_mul_le2 hu.2.1 hu.2.2 hy.2.1 hy.2.2
  rw [← p2_add] at this
  exact bd_of (pf_mul hu.1 hy.1) h1 h2 this.1 this.2

/-- a small answer comes of a small right side: one row of the back substitution -/
theorem backv_small {m i u0 u1 u2 b y1 y2 : Nat} (f0 : Bd u0 (p2 28)) (n0 : val u0 ≠ 0) (f12 : i + 1 < m → Bd u1 (p2 27) ∧ Bd u2 (p2 24))
    (hy : Bd (backv m i u0 u1 u2 b y1 y2) (p2 (-200))) (hy1 : i + 1 < m → Bd y1 (p2 (-200))) (hy2 : i + 2 < m → Bd y2 (p2 (-200))) : Bd b (p2 (-169)) := by
  have key : ∀ s2 : Nat, Bd (pf .quo s2 u0) (p2 (-200)) → Fl.Fin s2 ∧ val s2 < p2 (-171) ∧ -p2 (-171) < val s2 := by
    intro s2 hq
    have fs := fin_of_quo f0.1 hq.1
    have rn := RNW.rn_fin (pf_quo fs f0.1 n0) hq.1
    have hlt := p2_lt (show (-200 : Int) < -199 by omega)
    have hb := RN.below (k := -199) rn (by omega) (by have := hq.2; grind) (by have := hq.2; grind)
    have e : val s2 = (val s2 / val u0) * val u0 := by grind
    have e2 : p2 (-171) = p2 (-199) * p2 28 := by rw [← p2_add]; rfl
    have P := p2_pos (-199)
    have Q := p2_pos 28
    generalize val s2 / val u0 = q at *
    have ab := abs_mul_le (l := val u0 * p2 (-28)) (v := q * p2 28) (K := p2 (-171)) ?_ ?_ ?_ ?_
    · have e3 : val u0 * p2 (-28) * (q * p2 28) = q * val u0 := by
        have : p2 (-28) * p2 28 = 1 := p2_neg_mul 28
        grind
      rw [e3] at ab
      -- strictness
      have hne : q * p2 28 < p2 (-171) ∧ -p2 (-171) < q * p2 28 := by
        rw [e2]
        have := Rat.mul_lt_mul_of_pos_right hb.1 Q
        have := Rat.mul_lt_mul_of_pos_right hb.2 Q
        constructor <;> grind
      refine ⟨fs, ?_, ?_⟩
      · rw [e]
        have a1 : val u0 * p2 (-28) ≤ 1 ∧ -1 ≤ val u0 * p2 (-28) := by
          have h28 : p2 28 * p2 (-28) = 1 := by rw [← p2_add]; exact p2_zero
          have := Rat.mul_le_mul_of_nonneg_right f0.2.1 (Rat.le_of_lt (p2_pos (-28)))
          have := Rat.mul_le_mul_of_nonneg_right f0.2.2 (Rat.le_of_lt (p2_pos (-28)))
          constructor <;> grind
        rw [← e3]
        rcases Rat.le_total (a := 0) (b := q * p2 28) with h | h
        · have := abs_mul_le a1.1 a1.2 (show q * p2 28 ≤ q * p2 28 from Rat.le_refl) (by grind)
          grind
        · have := abs_mul_le a1.1 a1.2 (show q * p2 28 ≤ -(q * p2 28) by grind) (by grind)
          grind
      · rw [e]
        have a1 : val u0 * p2 (-28) ≤ 1 ∧ -1 ≤ val u0 * p2 (-28) := by
          have h28 : p2 28 * p2 (-28) = 1 := by rw [← p2_add]; exact p2_zero
          have := Rat.mul_le_mul_of_nonneg_right f0.2.1 (Rat.le_of_lt (p2_pos (-28)))
          have := Rat.mul_le_mul_of_nonneg_right f0.2.2 (Rat.le_of_lt (p2_pos (-28)))
          constructor <;> grind
        rw [← e3]
        rcases Rat.le_total (a := 0) (b := q * p2 28) with h | h
        · have := abs_mul_le a1.1 a1.2 (show q * p2 28 ≤ q * p2 28 from Rat.le_refl) (by grind)
          grind
        · have := abs_mul_le a1.1 a1.2 (show q * p2 28 ≤ -(q * p2 28) by grind) (by grind)
          grind
    · have h28 : p2 28 * p2 (-28) = 1 := by rw [← p2_add]; exact p2_zero
      have := Rat.mul_le_mul_of_nonneg_right f0.2.1 (Rat.le_of_lt (p2_pos (-28)))
      grind
    · have h28 : p2 28 * p2 (-28) = 1 := by rw [← p2_add]; exact p2_zero
      have := Rat.mul_le_mul_of_nonneg_right f0.2.2 (Rat.le_of_lt (p2_pos (-28)))
      grind
    · rw [e2]; have := Rat.mul_le_mul_of_nonneg_right (Rat.le_of_lt hb.1) (Rat.le_of_lt Q); exact this
    · rw [e2]; have := Rat.mul_le_mul_of_nonneg_right (Rat.le_of_lt hb.2) (Rat.le_of_lt Q); grind
  unfold backv at hy
  have hs2 := key _ hy
  have h10 := p2_mono (show (-171 : Int) ≤ -170 by omega)
  have h11 := p2_mono (show (-170 : Int) ≤ -169 by omega)
  -- s1
  have hs1 : Fl.Fin (if i + 1 < m then pf .sub b (pf .mul u1 y1) else b) ∧ val (if i + 1 < m then pf .sub b (pf .mul u1 y1) else b) < p2 (-170) ∧ -p2 (-170) < val (if i + 1 < m then pf .sub b (pf .mul u1 y1) else b) := by
    generalize (if i + 1 < m then pf .sub b (pf .mul u1 y1) else b) = s1 at hs2 ⊢
    by_cases h : i + 2 < m
    · rw [if_pos h] at hs2
      have ht := (bd_mul (f12 (by omega)).2 (hy2 h) (by omega) (by omega)).1
      exact sub_back (k := -171) (by omega) (show (24 + -200 : Int) ≤ -171 by omega) rfl hs2.1 hs2.2.1 hs2.2.2 ht
    · rw [if_neg h] at hs2
      exact ⟨hs2.1, by grind, by grind⟩
  by_cases h : i + 1 < m
  · rw [if_pos h] at hs1
    have ht := (bd_mul (f12 h).1 (hy1 h) (by omega) (by omega)).1
    have := sub_back (k := -170) (by omega) (show (27 + -200 : Int) ≤ -170 by omega) rfl hs1.1 hs1.2.1 hs1.2.2 ht
    rw [show (-170 + 1 : Int) = -169 by rfl] at this
    exact ⟨this.1, by grind, by grind⟩
  · rw [if_neg h] at hs1
    exact ⟨hs1.1, by grind, by grind⟩

/-- one round of the elimination undone -/
theorem round_back {al of : List Nat} {th ti m k : Nat} {s : St} {E D : Rat} (H : Inp al of th m) (ht : Bd ti (p2 28)) (ht0 : val ti ≠ 0) (hk : k + 1 < m) (hs : InvS s k) (hl : s.b.length = m)
    (hD : D = p2 (-169)) (hE0 : D ≤ E) (hE : E ≤ p2 (-150))
    (h1 : ∀ j, j < k + 1 → Bd ((round al of th ti m k s).b.getD j 0) D) (h2 : ∀ j, j < m → Bd ((round al of th ti m k s).b.getD j 0) E) :
    (∀ j, j < k → Bd (s.b.getD j 0) D) ∧ (∀ j, j < m → Bd (s.b.getD j 0) (E + 2 * D)) := by
  obtain ⟨P⟩ := piece_ex (ti := ti) H hk hs
  rw [P.eq, elim_b_get] at h1 h2
  obtain ⟨_, _, hq⟩ := piv_facts ht ht0 P.fc0 P.fn0 P.le
  have hPl : P.b.length = m := by
    rcases P.hb with h | h
    · rw [h]; exact hl
    · rw [h, swapAt_len]; exact hl
  have hlow : ∀ j, j < k + 1 → Bd (P.b.getD j 0) D := by
    intro j hj
    have := h1 j hj
    rwa [getD_set_ne (by omega)] at this
  have hoth : ∀ j, j < m → j ≠ k + 1 → Bd (P.b.getD j 0) E := by
    intro j hj hne
    have := h2 j hj
    rwa [getD_set_ne (by omega)] at this
  have D0 : 0 < D := by rw [hD]; exact p2_pos _
  -- the entry that was changed
  have hch : Bd (P.b.getD (k + 1) 0) (E + 2 * D) := by
    have hv := h2 (k + 1) hk
    rw [getD_set_self (by rw [hPl]; exact hk)] at hv
    obtain ⟨fs, ft⟩ := fin_of_sub hv.1
    have rn := RNW.rn_fin (pf_sub fs ft) hv.1
    have hbk := hlow k (by omega)
    rw [hD] at hbk
    have tb := (Bd.mul1 hq hbk (by omega) (by omega)).1
    rw [← hD] at tb
    generalize hr : val (P.b.getD (k + 1) 0) - val (pf .mul (pf .quo P.n0 (pivF ti P.c0)) (P.b.getD k 0)) = r at rn
    have e53 : p2 (-53) * p2 (-150) ≤ p2 (-203) := by rw [← p2_add]; exact p2_mono (by omega)
    have e203 : p2 (-203) * 65536 ≤ p2 (-169) := by
      have : p2 16 = 65536 := by rw [show (16 : Int) = ((16 : Nat) : Int) from rfl, p2_nat]; rfl
      rw [← this, ← p2_add]; exact p2_mono (by omega)
    have e1075 : p2 (-1075) ≤ p2 (-203) := p2_mono (by omega)
    have P203 := p2_pos (-203)
    have U := p2_pos (-53)
    have hu := u_small
    -- r is at most twice the great bound
    have rb : r < p2 (-149) ∧ -p2 (-149) < r := by
      have h49 := p2_lt (show (-150 : Int) < -149 by omega)
      exact RN.below rn (by omega) (by have := hv.2; grind) (by have := hv.2; grind)
    have er := rn.err (b := p2 (-149)) (by grind) (by grind)
    have e149 : p2 (-53) * p2 (-149) ≤ p2 (-202) := by rw [← p2_add]; exact p2_mono (by omega)
    have e202 : p2 (-202) * 65536 ≤ p2 (-169) := by
      have : p2 16 = 65536 := by rw [show (16 : Int) = ((16 : Nat) : Int) from rfl, p2_nat]; rfl
      rw [← this, ← p2_add]; exact p2_mono (by omega)
    have hv2 := hv.2
    have tb2 := tb.2
    have P202 := p2_pos (-202)
    have D9 : p2 (-169) = D := hD.symm
    rw [D9] at e202 e203
    clear h1 h2 hlow hoth hq hbk tb
    refine ⟨fs, ?_, ?_⟩
    · grind
    · grind
  rcases P.hb with hb | hb
  · rw [hb] at hlow hoth hch
    refine ⟨fun j hj => hlow j (by omega), fun j hj => ?_⟩
    by_cases e : j = k + 1
    · rw [e]; exact hch
    · exact (hoth j hj e).mono (by grind)
  · have hg := fun j => swapAt_get (b := s.b) (i := k) (by omega) j
    rw [hb] at hlow hoth hch
    refine ⟨fun j hj => ?_, fun j hj => ?_⟩
    · have := hlow j (by omega)
      rwa [hg j, if_neg (by omega), if_neg (by omega)] at this
    · by_cases e1 : j = k
      · have := hch
        rw [hg (k + 1), if_neg (by omega), if_pos rfl] at this
        rw [e1]; exact this
      · by_cases e2 : j = k + 1
        · have := hlow k (by omega)
          rw [hg k, if_pos rfl] at this
          rw [e2]; exact this.mono (by grind)
        · have := hoth j hj e2
          rw [hg j, if_neg e1, if_neg e2] at this
          exact this.mono (by grind)

/-- all rounds undone -/
theorem rounds_back {al of : List Nat} {th m : Nat} {b : List Nat} (H : Inp al of th m) (hm : 1 ≤ m) (hmx : m ≤ 65536) (hl : b.length = m)
    (hB : ∀ j, j < m → Bd ((facB al of th m b).getD j 0) (p2 (-169))) (t : Nat) :
    ∀ k, k + t = m - 1 → (∀ j, j < k → Bd ((rounds al of th (tinyF th) m (start al of th m b) k).b.getD j 0) (p2 (-169))) ∧
      (∀ j, j < m → Bd ((rounds al of th (tinyF th) m (start al of th m b) k).b.getD j 0) ((2 * (t : Rat) + 1) * p2 (-169))) := by
  obtain ⟨t1, t2⟩ := tiny_bd H
  induction t with
  | zero =>
    intro k hk
    have e : k = m - 1 := by omega
    subst e
    refine ⟨fun j hj => hB j (by omega), fun j hj => ?_⟩
    have := hB j hj
    rw [show ((0 : Nat) : Rat) = 0 from rfl]
    exact this.mono (by grind)
  | succ t ih =>
    intro k hk
    obtain ⟨i1, i2⟩ := ih (k + 1) (by omega)
    have hb := (rounds_lens (start_lens al of th m b) k (al := al) (of := of) (th := th) (ti := tinyF th) (M := m)).1
    have P := p2_pos (-169)
    have tb : (t : Rat) ≤ 65536 := Rat.natCast_le_natCast.2 (show t ≤ 65536 by omega)
    have t0 : (0 : Rat) ≤ (t : Rat) := Rat.natCast_le_natCast.2 (Nat.zero_le t)
    have m1 := Rat.mul_le_mul_of_nonneg_right tb (Rat.le_of_lt P)
    have m0 := Rat.mul_nonneg t0 (Rat.le_of_lt P)
    have e150 : p2 (-169) * 524288 ≤ p2 (-150) := by
      have : p2 19 = 524288 := by rw [show (19 : Int) = ((19 : Nat) : Int) from rfl, p2_nat]; rfl
      rw [← this, ← p2_add]; exact p2_mono (by omega)
    have R := round_back (E := (2 * (t : Rat) + 1) * p2 (-169)) (D := p2 (-169)) H t1 t2 (by omega) (rounds_inv H hm t1 t2 k (by omega)) (by omega) rfl (by grind) (by grind) i1 i2
    refine ⟨R.1, fun j hj => (R.2 j hj).mono ?_⟩
    have et : ((t + 1 : Nat) : Rat) = (t : Rat) + 1 := by rw [Rat.natCast_add]; rfl
    rw [et]; grind

/-- a small answer comes of a small right side -/
theorem solve_small {al of : List Nat} {th m : Nat} {b : List Nat} (H : Inp al of th m) (hm : 1 ≤ m) (hmx : m ≤ 65536) (hl : b.length = m)
    (hy : ∀ j, j < m → Bd ((solveF al of th m b).getD j 0) (p2 (-200))) : ∀ j, j < m → Bd (b.getD j 0) (p2 (-150)) := by
  have hB : ∀ j, j < m → Bd ((facB al of th m b).getD j 0) (p2 (-169)) := by
    intro i hi
    obtain ⟨f0, f1, f2⟩ := fac_bd (b := b) H hm i hi
    have := hy i hi
    rw [solve_row hl i hi] at this
    exact backv_small f0 f1 f2 this (fun h => hy _ h) (fun h => hy _ h)
  have R := (rounds_back H hm hmx hl hB (m - 1) 0 (by omega)).2
  intro j hj
  have := R j hj
  refine Bd.mono (a := (2 * ((m - 1 : Nat) : Rat) + 1) * p2 (-169)) this ?_
  have P := p2_pos (-169)
  have tb : ((m - 1 : Nat) : Rat) ≤ 65536 := Rat.natCast_le_natCast.2 (show m - 1 ≤ 65536 by omega)
  have m1 := Rat.mul_le_mul_of_nonneg_right tb (Rat.le_of_lt P)
  have e150 : p2 (-169) * 524288 ≤ p2 (-150) := by
    have : p2 19 = 524288 := by rw [show (19 : Int) = ((19 : Nat) : Int) from rfl, p2_nat]; rfl
    rw [← this, ← p2_add]; exact p2_mono (by omega)
  grind
end Go.Proofs.Qxb6605993a
