/- The bisection stays finite, and each round shortens its interval. -/
import Derived.Test.Qxb6605993aBisF
import Derived.Test.Qxb6605993aFlG
namespace Go.Proofs.Qxb6605993a
open Ieee Fl

structure InpB (al of : List Nat) (m : Nat) : Prop where
  m1 : 1 ≤ m
  al : ∀ i, i < m → Bd (al.getD i 0) (p2 24)
  of : ∀ i, i + 1 < m → Bd (of.getD i 0) (p2 24)

theorem min_facts {x y : Nat} (hx : Fl.Fin x) (hy : Fl.Fin y) : (minW x y = x ∨ minW x y = y) ∧ val (minW x y) ≤ val x ∧ val (minW x y) ≤ val y := by
  have ho := order_fin hx hy
  unfold minW
  by_cases h : val x < val y
  · rw [ho.1 h]; exact ⟨Or.inl rfl, Rat.le_refl, Rat.le_of_lt h⟩
  · by_cases h2 : val x = val y
    · rw [ho.2.1 h2]
      show ((if (FloatKind.f64.decode x).neg then x else y) = x ∨ (if (FloatKind.f64.decode x).neg then x else y) = y) ∧ val (if (FloatKind.f64.decode x).neg then x else y) ≤ val x ∧ val (if (FloatKind.f64.decode x).neg then x else y) ≤ val y
      split
      · exact ⟨Or.inl rfl, Rat.le_refl, by grind⟩
      · exact ⟨Or.inr rfl, by grind, Rat.le_refl⟩
    · rw [ho.2.2 (by grind)]; exact ⟨Or.inr rfl, by show val y ≤ val x; grind, Rat.le_refl⟩
theorem max_facts {x y : Nat} (hx : Fl.Fin x) (hy : Fl.Fin y) : (maxW x y = x ∨ maxW x y = y) ∧ val x ≤ val (maxW x y) ∧ val y ≤ val (maxW x y) := by
  have ho := order_fin hx hy
  unfold maxW
  by_cases h : val x < val y
  · rw [ho.1 h]; exact ⟨Or.inr rfl, Rat.le_of_lt h, Rat.le_refl⟩
  · by_cases h2 : val x = val y
    · rw [ho.2.1 h2]
      show ((if (FloatKind.f64.decode x).neg then y else x) = x ∨ (if (FloatKind.f64.decode x).neg then y else x) = y) ∧ val x ≤ val (if (FloatKind.f64.decode x).neg then y else x) ∧ val y ≤ val (if (FloatKind.f64.decode x).neg then y else x)
      split
      · exact ⟨Or.inr rfl, by grind, Rat.le_refl⟩
      · exact ⟨Or.inl rfl, Rat.le_refl, by grind⟩
    · rw [ho.2.2 (by grind)]; exact ⟨Or.inl rfl, Rat.le_refl, by show val y ≤ val x; grind⟩

/-- the magnitude -/
def aV (x : Nat) : Rat := val (absF x)
theorem aV_facts (x : Nat) : 0 ≤ aV x ∧ val x ≤ aV x ∧ -aV x ≤ val x ∧ (aV x = val x ∨ aV x = - val x) := abs_val x
theorem aV_le {x : Nat} {K : Rat} (h : Bd x K) : aV x ≤ K := by
  have := aV_facts x
  have := h.2
  grind

section
variable {al of : List Nat} {m : Nat}

/-- the radius, exactly -/
def ro1 (of : List Nat) (i : Nat) : Rat := if 0 < i then aV (of.getD (i - 1) 0) else 0
def ro2 (of : List Nat) (m i : Nat) : Rat := if i + 1 < m then aV (of.getD i 0) else 0

theorem nums : p2 24 = 16777216 ∧ p2 25 = 33554432 ∧ (1180591620717411303424 : Rat) ≤ p2 1000 := by
  refine ⟨?_, ?_, ?_⟩
  · rw [show (24 : Int) = ((24 : Nat) : Int) from rfl, p2_nat]; rfl
  · rw [show (25 : Int) = ((25 : Nat) : Int) from rfl, p2_nat]; rfl
  · have : p2 70 = 1180591620717411303424 := by rw [show (70 : Int) = ((70 : Nat) : Int) from rfl, p2_nat]; rfl
    rw [← this]; exact p2_mono (by omega)

theorem ro1_facts (H : InpB al of m) {i : Nat} (hi : i < m) : 0 ≤ ro1 of i ∧ ro1 of i ≤ 16777216 := by
  unfold ro1
  split
  · have := aV_le (H.of (i - 1) (by omega))
    have := (aV_facts (of.getD (i - 1) 0)).1
    rw [nums.1] at *
    constructor <;> grind
  · constructor <;> grind
theorem ro2_facts (H : InpB al of m) (i : Nat) : 0 ≤ ro2 of m i ∧ ro2 of m i ≤ 16777216 := by
  unfold ro2
  split
  · rename_i h
    have := aV_le (H.of i h)
    have := (aV_facts (of.getD i 0)).1
    rw [nums.1] at *
    constructor <;> grind
  · constructor <;> grind

theorem rad1_val (H : InpB al of m) {i : Nat} (hi : i < m) : Eqv (rad1 of i) (ro1 of i) := by
  have hr := ro1_facts H hi
  unfold rad1 ro1 at *
  split
  · rename_i h
    rw [if_pos h] at hr
    have hb := H.of (i - 1) (by omega)
    have f := fin_absF hb.1
    have q := pf_add fin_zero f
    rw [val_zero, show (0 : Rat) + val (absF (of.getD (i - 1) 0)) = val (absF (of.getD (i - 1) 0)) by grind] at q
    have big := nums.2.2
    obtain ⟨f1, r1⟩ := q.small (by unfold aV at hr; grind) (by unfold aV at hr; grind)
    exact ⟨f1, r1.eq (rn_val _)⟩
  · exact ⟨fin_zero, val_zero⟩

theorem rad_val (H : InpB al of m) {i : Nat} (hi : i < m) : Fl.Fin (radF of m i) ∧ RN (ro1 of i + ro2 of m i) (val (radF of m i)) ∧ 0 ≤ val (radF of m i) ∧ val (radF of m i) ≤ 33554432 := by
  have h1 := rad1_val H hi
  have a1 := ro1_facts H hi
  have a2 := ro2_facts H i
  have big := nums.2.2
  have r25 := rn_p2 25 (by omega)
  rw [nums.2.1] at r25
  have key : Fl.Fin (radF of m i) ∧ RN (ro1 of i + ro2 of m i) (val (radF of m i)) := by
    unfold radF ro2 at *
    split
    · rename_i h
      rw [if_pos h] at a2
      have q := pf_add h1.1 (fin_absF (H.of i h).1)
      rw [h1.2] at q
      exact q.small (by unfold aV at a2; grind) (by unfold aV at a2; grind)
    · refine ⟨h1.1, ?_⟩
      rw [h1.2, show ro1 of i + 0 = ro1 of i by grind, ← h1.2]
      exact rn_val _
  exact ⟨key.1, key.2, key.2.nonneg (by grind), key.2.mono r25 (by grind)⟩

theorem bd_K {r : Rat} {z : Nat} (h : RNW r z) (h1 : r ≤ 50331648) (h2 : -50331648 ≤ r) : Bd z 50331648 ∧ RN r (val z) := by
  have big := nums.2.2
  obtain ⟨f, rn⟩ := h.small (by grind) (by grind)
  have r3 := rn_repr 50331648 0 (by omega) (by omega)
  rw [p2_zero, Rat.mul_one, show ((50331648 : Nat) : Rat) = 50331648 from rfl] at r3
  exact ⟨⟨f, rn.mono r3 h1, r3.neg.mono rn h2⟩, rn⟩

theorem lows (H : InpB al of m) {i : Nat} (hi : i < m) : (Bd (pf .sub (al.getD i 0) (radF of m i)) 50331648 ∧ RN (val (al.getD i 0) - val (radF of m i)) (val (pf .sub (al.getD i 0) (radF of m i)))) ∧
    (Bd (pf .add (al.getD i 0) (radF of m i)) 50331648 ∧ RN (val (al.getD i 0) + val (radF of m i)) (val (pf .add (al.getD i 0) (radF of m i)))) := by
  have ha := H.al i hi
  obtain ⟨f, _, r0, r1⟩ := rad_val H hi
  have ha2 := ha.2
  rw [nums.1] at ha2
  exact ⟨bd_K (pf_sub ha.1 f) (by grind) (by grind), bd_K (pf_add ha.1 f) (by grind) (by grind)⟩

theorem gLo_facts (H : InpB al of m) (j : Nat) (hj : j ≤ m) : Bd (gLo al of m j) 50331648 ∧ val (gLo al of m j) ≤ val (al.getD 0 0) ∧ ∀ i, i < j → val (gLo al of m j) ≤ val (pf .sub (al.getD i 0) (radF of m i)) := by
  induction j with
  | zero => exact ⟨(H.al 0 (by have := H.m1; omega)).mono (by rw [nums.1]; grind), Rat.le_refl, fun i hi => by omega⟩
  | succ j ih =>
    obtain ⟨b, l, a⟩ := ih (by omega)
    have hl := (lows H (show j < m by omega)).1.1
    obtain ⟨e, m1, m2⟩ := min_facts b.1 hl.1
    show Bd (minW _ _) _ ∧ val (minW _ _) ≤ _ ∧ ∀ i, i < j + 1 → val (minW _ _) ≤ _
    refine ⟨?_, by grind, fun i hi => ?_⟩
    · rcases e with e | e <;> rw [e] <;> assumption
    · by_cases hij : i = j
      · subst hij; exact m2
      · have := a i (by omega); grind
theorem gHi_facts (H : InpB al of m) (j : Nat) (hj : j ≤ m) : Bd (gHi al of m j) 50331648 ∧ val (al.getD 0 0) ≤ val (gHi al of m j) ∧ ∀ i, i < j → val (pf .add (al.getD i 0) (radF of m i)) ≤ val (gHi al of m j) := by
  induction j with
  | zero => exact ⟨(H.al 0 (by have := H.m1; omega)).mono (by rw [nums.1]; grind), Rat.le_refl, fun i hi => by omega⟩
  | succ j ih =>
    obtain ⟨b, l, a⟩ := ih (by omega)
    have hl := (lows H (show j < m by omega)).2.1
    obtain ⟨e, m1, m2⟩ := max_facts b.1 hl.1
    show Bd (maxW _ _) _ ∧ _ ≤ val (maxW _ _) ∧ ∀ i, i < j + 1 → _ ≤ val (maxW _ _)
    refine ⟨?_, by grind, fun i hi => ?_⟩
    · rcases e with e | e <;> rw [e] <;> assumption
    · by_cases hij : i = j
      · subst hij; exact m2
      · have := a i (by omega); grind

theorem u_nums : p2 (-53) * 9007199254740992 = 1 ∧ p2 (-1075) ≤ p2 (-107) ∧ p2 (-107) * 1180591620717411303424 ≤ 1 ∧ 0 < p2 (-107) ∧ 0 < p2 (-1075) := by
  refine ⟨p2_m53, p2_mono (by omega), ?_, p2_pos _, p2_pos _⟩
  have : p2 70 = 1180591620717411303424 := by rw [show (70 : Int) = ((70 : Nat) : Int) from rfl, p2_nat]; rfl
  rw [← this, ← p2_add]
  have := p2_mono (show (-37 : Int) ≤ 0 by omega)
  rw [p2_zero] at this
  exact this

theorem lo0_facts (H : InpB al of m) : Bd (lo0F al of m) 50331649 ∧ val (lo0F al of m) ≤ val (gLo al of m m) - 1 + 1 / 1000000 ∧ val (gLo al of m m) - 1 - 1 / 1000000 ≤ val (lo0F al of m) := by
  obtain ⟨b, _⟩ := gLo_facts H m (Nat.le_refl _)
  have big := nums.2.2
  obtain ⟨u1, u2, u3, u4, u5⟩ := u_nums
  have hb := b.2
  have q := pf_sub b.1 fin_one
  rw [val_one] at q
  obtain ⟨f, rn⟩ := q.small (by grind) (by grind)
  have r3 := rn_repr 50331649 0 (by omega) (by omega)
  rw [p2_zero, Rat.mul_one, show ((50331649 : Nat) : Rat) = 50331649 from rfl] at r3
  have er := rn.err (b := 50331649) (by grind) (by grind)
  unfold lo0F
  exact ⟨⟨f, rn.mono r3 (by grind), r3.neg.mono rn (by grind)⟩, by grind, by grind⟩
theorem hi0_facts (H : InpB al of m) : Bd (hi0F al of m) 50331649 ∧ val (hi0F al of m) ≤ val (gHi al of m m) + 1 + 1 / 1000000 ∧ val (gHi al of m m) + 1 - 1 / 1000000 ≤ val (hi0F al of m) := by
  obtain ⟨b, _⟩ := gHi_facts H m (Nat.le_refl _)
  have big := nums.2.2
  obtain ⟨u1, u2, u3, u4, u5⟩ := u_nums
  have hb := b.2
  have q := pf_add b.1 fin_one
  rw [val_one] at q
  obtain ⟨f, rn⟩ := q.small (by grind) (by grind)
  have r3 := rn_repr 50331649 0 (by omega) (by omega)
  rw [p2_zero, Rat.mul_one, show ((50331649 : Nat) : Rat) = 50331649 from rfl] at r3
  have er := rn.err (b := 50331649) (by grind) (by grind)
  unfold hi0F
  exact ⟨⟨f, rn.mono r3 (by grind), r3.neg.mono rn (by grind)⟩, by grind, by grind⟩
end
end Go.Proofs.Qxb6605993a
