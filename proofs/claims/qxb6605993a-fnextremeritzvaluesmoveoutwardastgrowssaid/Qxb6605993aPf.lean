/- The operations with one NaN: on finite words, on infinities, on NaNs. -/
import Derived.Test.Qxb6605993aFlF
import Derived.Test.Qxb6605993aUnit
namespace Go.Proofs.Qxb6605993a
open Ieee Fl

theorem pf_add {x y : Nat} (hx : Fl.Fin x) (hy : Fl.Fin y) : RNW (val x + val y) (pf .add x y) := by
  obtain ⟨z, e, h⟩ := add_rn hx hy
  have : floatBits .add .f64 x y = some z := e
  unfold pf; rw [this]; exact h
theorem pf_sub {x y : Nat} (hx : Fl.Fin x) (hy : Fl.Fin y) : RNW (val x - val y) (pf .sub x y) := by
  obtain ⟨z, e, h⟩ := sub_rn hx hy
  have : floatBits .sub .f64 x y = some z := e
  unfold pf; rw [this]; exact h
theorem pf_mul {x y : Nat} (hx : Fl.Fin x) (hy : Fl.Fin y) : RNW (val x * val y) (pf .mul x y) := by
  obtain ⟨z, e, h⟩ := mul_rn hx hy
  have : floatBits .mul .f64 x y = some z := e
  unfold pf; rw [this]; exact h
theorem pf_quo {x y : Nat} (hx : Fl.Fin x) (hy : Fl.Fin y) (h0 : val y ≠ 0) : RNW (val x / val y) (pf .quo x y) := by
  obtain ⟨z, e, h⟩ := div_rn hx hy h0
  have : floatBits .quo .f64 x y = some z := e
  unfold pf; rw [this]; exact h

/-! ### infinities -/
def INFW : Nat := 9218868437227405312
def isInf (x : Nat) : Prop := rung x = 9218868437227405312
theorem word_cases (x : Nat) : Fl.Fin x ∨ isInf x ∨ isN x = true := by
  unfold Fl.Fin isInf isN rung
  rcases Nat.lt_trichotomy (x % 9223372036854775808) 9218868437227405312 with h | h | h
  · exact Or.inl h
  · exact Or.inr (Or.inl h)
  · exact Or.inr (Or.inr (decide_eq_true h))
theorem not_fin_inf {x : Nat} (h : isInf x) : ¬ Fl.Fin x := by unfold Fl.Fin isInf at *; omega
theorem not_fin_nan {x : Nat} (h : isN x = true) : ¬ Fl.Fin x := by
  unfold isN at h
  have := of_decide_eq_true h
  unfold Fl.Fin rung; omega
theorem not_fin_NAN : ¬ Fl.Fin NAN := not_fin_nan isN_NAN
theorem read_inf {x : Nat} (h : isInf x) : double.read x = .infinity (sgb x) := by
  unfold isInf at h
  unfold Format.read
  simp only [d_sw, d_binade, d_inf]
  rw [show x % 9223372036854775808 = rung x from rfl, show (x / 9223372036854775808 % 2 == 1) = sgb x from rfl, h]
  rw [if_neg (by omega), if_neg (by omega), if_pos rfl]
theorem write_inf (s : Bool) : isInf (double.write (.infinity s)) := by
  show rung (double.word s double.infRung) = _
  rw [d_inf, word_rung s (by omega)]
theorem inf_INFW : isInf INFW := rfl
theorem sgb_INFW : sgb INFW = false := rfl
theorem write_INFW : double.write (.infinity false) = INFW := by
  show double.word false double.infRung = INFW
  rw [d_inf]; rfl

/-- a result that is finite had finite operands -/
theorem fin_of_sub {x y : Nat} (h : Fl.Fin (pf .sub x y)) : Fl.Fin x ∧ Fl.Fin y := by
  have key : pf .sub x y = (double.sub x y).getD NAN := rfl
  rw [key] at h
  rcases word_cases x with hx | hx | hx
  · rcases word_cases y with hy | hy | hy
    · exact ⟨hx, hy⟩
    · exfalso
      obtain ⟨m, i, e1, _, _⟩ := read_fin hx
      unfold Format.sub at h
      rw [e1, read_inf hy] at h
      exact not_fin_inf (write_inf _) h
    · rw [sub_nan (Or.inr hy)] at h; exact absurd h not_fin_NAN
  · exfalso
    rcases word_cases y with hy | hy | hy
    · obtain ⟨m, i, e1, _, _⟩ := read_fin hy
      unfold Format.sub at h
      rw [e1, read_inf hx] at h
      exact not_fin_inf (write_inf _) h
    · unfold Format.sub at h
      rw [read_inf hy, read_inf hx] at h
      simp only [Datum.opposite, Datum.sum] at h
      split at h
      · exact not_fin_inf (write_inf _) h
      · exact not_fin_NAN h
    · rw [sub_nan (Or.inr hy)] at h; exact not_fin_NAN h
  · rw [sub_nan (Or.inl hx)] at h; exact absurd h not_fin_NAN

theorem fin_of_mul {x y : Nat} (hx : Fl.Fin x) (h : Fl.Fin (pf .mul x y)) : Fl.Fin y := by
  have key : pf .mul x y = (double.mul x y).getD NAN := rfl
  rw [key] at h
  rcases word_cases y with hy | hy | hy
  · exact hy
  · exfalso
    obtain ⟨m, i, e1, _, _⟩ := read_fin hx
    unfold Format.mul at h
    rw [e1, read_inf hy] at h
    simp only [Datum.product] at h
    split at h
    · exact not_fin_NAN h
    · exact not_fin_inf (write_inf _) h
  · rw [mul_nan (Or.inr hy)] at h; exact absurd h not_fin_NAN

theorem fin_of_quo {x y : Nat} (hy : Fl.Fin y) (h : Fl.Fin (pf .quo x y)) : Fl.Fin x := by
  have key : pf .quo x y = (double.div x y).getD NAN := rfl
  rw [key] at h
  rcases word_cases x with hx | hx | hx
  · exact hx
  · exfalso
    obtain ⟨m, i, e1, _, _⟩ := read_fin hy
    unfold Format.div at h
    rw [e1, read_inf hx] at h
    exact not_fin_inf (write_inf _) h
  · rw [div_nan (Or.inl hx)] at h; exact absurd h not_fin_NAN

/-! ### NaNs persist -/
theorem pf_nan {op : BinOp} {x y : Nat} (h : isN x = true ∨ isN y = true) : pf op x y = NAN := by
  unfold pf; rw [floatBits_nan h]; rfl

/-! ### sums of squares: each part is finite and not negative, or +infinity -/
def NonNeg (x : Nat) : Prop := (Fl.Fin x ∧ sgb x = false) ∨ x = INFW

theorem RNW.nonneg {r : Rat} {z : Nat} (h : RNW r z) (h0 : 0 < r) : NonNeg z ∧ (Fl.Fin z → RN r (val z)) := by
  obtain ⟨s, k, rfl, hs0, hs1, hk⟩ := h
  have hs : s = false := by
    cases s
    · rfl
    · have := hs1 rfl; exfalso; grind
  subst hs
  by_cases hl : k < 9218868437227405312
  · rw [Nat.min_eq_left (by omega)]
    refine ⟨Or.inl ⟨by unfold Fl.Fin; rw [word_rung false (by omega)]; exact hl, word_sgb false (by omega)⟩, fun _ => ?_⟩
    rw [word_val false (by omega)]; exact Or.inl ⟨hs0 rfl, k, hk, rfl⟩
  · rw [Nat.min_eq_right (by omega)]
    refine ⟨Or.inr rfl, fun hf => ?_⟩
    exfalso
    unfold Fl.Fin at hf
    rw [word_rung false (by omega)] at hf; omega

theorem val_nonneg {x : Nat} (h : sgb x = false) : 0 ≤ val x := by unfold val; rw [h, sv_false]; exact mv_nonneg _
theorem sgb_of_pos {x : Nat} (h : 0 < val x) : sgb x = false := by
  cases hs : sgb x
  · rfl
  · exfalso
    unfold val at h
    rw [hs, sv_true] at h
    have := mv_nonneg (rung x); grind

end Go.Proofs.Qxb6605993a
