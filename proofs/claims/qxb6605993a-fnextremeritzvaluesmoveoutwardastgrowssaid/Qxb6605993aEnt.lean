/- Each entry of the eigenvector is a NaN or at most 1, nearly. -/
import Derived.Test.Qxb6605993aEigP
namespace Go.Proofs.Qxb6605993a
open Ieee Fl

def EntOk (x : Nat) : Prop := isN x = true ∨ (Fl.Fin x ∧ val x ≤ 1 + p2 (-48) ∧ -(1 + p2 (-48)) ≤ val x)

theorem dot_nan {y : List Nat} {m j : Nat} (hj : j < m) (hn : isN (y.getD j 0) = true) : isN (dotF y y m) = true := by
  induction m with
  | zero => omega
  | succ m ih =>
    show isN (pf .add (dotF y y m) (pf .mul (y.getD m 0) (y.getD m 0))) = true
    by_cases h : j = m
    · subst h
      rw [pf_nan (op := .mul) (Or.inl hn), pf_nan (Or.inr isN_NAN)]; exact isN_NAN
    · rw [pf_nan (Or.inl (ih (by omega)))]; exact isN_NAN
theorem zero_ok {x : Nat} (h : Fl.Fin x) (h0 : val x = 0) : EntOk x := by
  have := p2_pos (-48)
  exact Or.inr ⟨h, by rw [h0]; grind, by rw [h0]; grind⟩

theorem unit_entry {y : List Nat} {m : Nat} (hl : y.length = m) (hm : 1 ≤ m) (hmx : m ≤ 65536) (hp : Plain y m) (i : Nat) (hi : i < m) : EntOk ((unitF y m).getD i 0) := by
  have hg : ∀ i, i < m → (unitF y m).getD i 0 = pf .mul (y.getD i 0) (factorF y m) := by
    intro i hi
    unfold unitF
    rw [scaleTo_get y _ m (by omega) i, if_pos hi]
  by_cases hN : HasN y m
  · left
    obtain ⟨j, hj, hn⟩ := hN
    have hd := dot_nan hj hn
    have ef : isN (factorF y m) = true := by
      have e1 : psq (dotF y y m) = NAN := by
        obtain ⟨s, t, e⟩ := read_nan hd
        unfold psq
        unfold Format.sqrt
        rw [e]
        rfl
      unfold factorF
      rw [e1, pf_nan (Or.inr isN_NAN)]; exact isN_NAN
    rw [hg i hi, pf_nan (Or.inr ef)]
    exact isN_NAN
  have hn : ∀ i, i < m → isN (y.getD i 0) = false := by
    intro i hi
    cases h : isN (y.getD i 0)
    · rfl
    · exact absurd ⟨i, hi, h⟩ hN
  obtain ⟨d1, d2⟩ := dot_nonneg hn m (Nat.le_refl _)
  have inf_case : dotF y y m = INFW → EntOk ((unitF y m).getD i 0) := by
    intro hd
    have ef : factorF y m = pf .quo 4607182418800017408 INFW := by unfold factorF; rw [hd, psq_inf]
    obtain ⟨q1, q2⟩ := quo_fin_inf fin_one inf_INFW
    rw [hg i hi, ef]
    rcases word_cases (y.getD i 0) with h | h | h
    · obtain ⟨z1, z2⟩ := mul_zero_val' h q1 q2
      exact zero_ok z1 z2
    · rw [mul_inf_zero h q1 q2]; exact Or.inl isN_NAN
    · rw [pf_nan (Or.inl h)]; exact Or.inl isN_NAN
  by_cases hI : ∃ i, i < m ∧ isInf (y.getD i 0)
  · exact inf_case (d2 hI)
  by_cases hd : Fl.Fin (dotF y y m)
  · rcases unit_cases hl hm hmx hp with h | h | h
    · rcases hp with ⟨j, hj, hb⟩ | hz
      · have hF : ∀ i, i < m → Fl.Fin (y.getD i 0) := by
          intro i hi
          rcases word_cases (y.getD i 0) with h | h | h
          · exact h
          · exact absurd ⟨i, hi, h⟩ hI
          · exact absurd ⟨i, hi, h⟩ hN
        have hv : ¬ (val (y.getD j 0) ≤ p2 (-200) ∧ -p2 (-200) ≤ val (y.getD j 0)) := fun h => hb ⟨hF j hj, h.1, h.2⟩
        have h1 := sq_ge (Rat.le_of_lt (p2_pos _)) hv
        have h2 := sumSq_ge (y := y) hj
        have e : p2 (-200) * p2 (-200) = p2 (-400) := by rw [← p2_add]; rfl
        rw [e] at h1
        obtain ⟨s1, _, _⟩ := scale_unit hl hmx hn hd (Rat.le_trans h1 h2)
        exact Or.inr (s1 i hi)
      · left
        obtain ⟨z1, z2⟩ := dot_zero hz m (Nat.le_refl _)
        obtain ⟨r1, r2⟩ := psq_zero z1 z2
        have hif : isInf (factorF y m) := quo_by_zero fin_one (by rw [val_one]; grind) r1 r2
        rw [hg i hi, mul_zero_inf (hz i hi).1 (hz i hi).2 hif]
        exact isN_NAN
    · exact zero_ok (h i hi).1 (h i hi).2
    · exact Or.inr (h.bd i hi)
  · refine inf_case ?_
    rcases d1 with ⟨h, _⟩ | h
    · exact absurd h hd
    · exact h

theorem step_entry {al of : List Nat} {th m : Nat} {b : List Nat} (H : Inp al of th m) (hm : 1 ≤ m) (hmx : m ≤ 65536) (hl : b.length = m)
    (hb : (∃ j, j < m ∧ ¬ Bd (b.getD j 0) (p2 (-150))) ∨ AllZ b m) (i : Nat) (hi : i < m) : EntOk ((stepF al of th m b).getD i 0) := by
  show EntOk ((unitF (solveF al of th m b) m).getD i 0)
  refine unit_entry (by rw [solveF_length]; exact hl) hm hmx ?_ i hi
  rcases hb with ⟨j, hj, hb⟩ | hz
  · left
    apply Classical.byContradiction
    intro hc
    apply hb
    refine solve_small H hm hmx hl (fun i hi => ?_) j hj
    apply Classical.byContradiction
    intro hi2
    exact hc ⟨i, hi, hi2⟩
  · exact Or.inr (solve_allZ H hm hl hz)

theorem eig_entry {al of : List Nat} {th m : Nat} (H : Inp al of th m) (hm : 1 ≤ m) (hmx : m ≤ 65536) (i : Nat) (hi : i < m) : EntOk ((eigF al of th m).getD i 0) := by
  have h1 : HasN (iterF al of th m 1) m ∨ AllZ (iterF al of th m 1) m ∨ Good (iterF al of th m 1) m := step_cases H hm hmx (randTo_length m m) (start_cases m)
  refine step_entry H hm hmx (iterF_length al of th m 1) ?_ i hi
  rcases h1 with ⟨j, hj, hn⟩ | h | h
  · exact Or.inl ⟨j, hj, fun hb => not_fin_nan hn hb.1⟩
  · exact Or.inr h
  · exact Or.inl (good_big hmx h)
end Go.Proofs.Qxb6605993a
