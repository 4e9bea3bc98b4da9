/- The pivots of eigenvaluesBelow: finite, and a chain as Chn has it; the counts m and 0. -/
import Derived.Test.Qxb6605993aBisQ
import Derived.Test.Qxb6605993aCount
import Derived.Test.Qxb6605993aChn
namespace Go.Proofs.Qxb6605993a
open Ieee Fl

theorem tp_val : Fl.Fin 268231017195544690 ∧ val 268231017195544690 = TV := by
  have e : 268231017195544690 = 58 * 4503599627370496 + 7022238808055922 := by omega
  constructor
  · rw [e]; exact fin_at 58 _ (by omega) (by omega)
  · rw [e, val_at 58 _ (Or.inr (by omega)) (by omega) (by omega)]; rfl
theorem ntp_val : Fl.Fin 9491603054050320498 ∧ val 9491603054050320498 = -TV := by
  have e : 9491603054050320498 = negW 268231017195544690 := by decide
  rw [e]
  exact ⟨fin_negW tp_val.1, by rw [val_negW (by omega), tp_val.2]⟩

theorem clamp_val {d : Nat} (hf : Fl.Fin d) : Fl.Fin (clampF d) ∧ Clamp (-TV) (val d) (val (clampF d)) := by
  have ha := abs_val d
  unfold clampF
  rw [lt_order (fin_absF hf) tp_val.1, tp_val.2]
  by_cases h : val (absF d) < TV
  · rw [decide_eq_true h, if_pos rfl]
    refine ⟨ntp_val.1, Or.inr (Or.inr ⟨by grind, by grind, ntp_val.2⟩)⟩
  · rw [decide_eq_false h, if_neg (by decide)]
    refine ⟨hf, ?_⟩
    by_cases h2 : 0 ≤ val d
    · exact Or.inl ⟨by grind, rfl⟩
    · exact Or.inr (Or.inl ⟨by grind, rfl⟩)
theorem Clamp.far {r E : Rat} (h : Clamp (-TV) r E) : TV ≤ E ∨ E ≤ -TV := by
  have := TV_facts.1
  unfold Clamp at h
  grind
theorem Clamp.flip {r E : Rat} (h : Clamp (-TV) r E) : Clamp TV (-r) (-E) := by
  have := TV_facts.1
  unfold Clamp at *
  grind

section
variable {al of : List Nat} {m x : Nat}

theorem sub_x (H : InpB al of m) (hx : Bd x 50331649) {i : Nat} (hi : i < m) : Bd (pf .sub (al.getD i 0) x) (p2 27) ∧ RN (val (al.getD i 0) - val x) (val (pf .sub (al.getD i 0) x)) := by
  have n27 : p2 27 = 134217728 := by rw [show (27 : Int) = ((27 : Nat) : Int) from rfl, p2_nat]; rfl
  exact (H.al i hi).sub hx (by omega) (by omega) (by rw [nums.1, n27]; grind)
theorem sq_o (H : InpB al of m) {i : Nat} (hi : i + 1 < m) : Bd (pf .mul (of.getD i 0) (of.getD i 0)) (p2 48) ∧ RN (val (of.getD i 0) * val (of.getD i 0)) (val (pf .mul (of.getD i 0) (of.getD i 0))) := by
  have h := H.of i hi
  have e : p2 24 * p2 24 = p2 48 := by rw [← p2_add]; rfl
  have := abs_mul_le2 h.2.1 h.2.2 h.2.1 h.2.2
  rw [e] at this
  exact bd_of (pf_mul h.1 h.1) (by omega) (by omega) this.1 this.2
theorem quo_o {q d : Nat} (hq : Bd q (p2 48)) (hd : Fl.Fin d) (h : TV ≤ val d ∨ val d ≤ -TV) : Fl.Fin (pf .quo q d) ∧ RN (val q / val d) (val (pf .quo q d)) ∧ val (pf .quo q d) ≤ p2 1012 ∧ -p2 1012 ≤ val (pf .quo q d) := by
  have T := TV_facts
  have P := p2_pos 1012
  have e : p2 (-964) * p2 1012 = p2 48 := by rw [← p2_add]; rfl
  have b := quo_bd (x := val q) (d := val d) (B := p2 1012) (p2_pos (-964)) (by grind) (by rw [e]; exact hq.2.1) (by rw [e]; exact hq.2.2) (Rat.le_of_lt P)
  have big := p2_lt (show (1012 : Int) < 1023 by omega)
  obtain ⟨f, r⟩ := (pf_quo hq.1 hd (by grind)).fin (by grind) (by grind)
  have r2 := rn_p2 1012 (by omega)
  exact ⟨f, r, r.mono r2 b.1, r2.neg.mono r b.2⟩

theorem raw_ok (H : InpB al of m) (hx : Bd x 50331649) (i : Nat) (hi : i < m) : Fl.Fin (rawF al of x i) ∧ Fl.Fin (dF al of x i) ∧ Clamp (-TV) (val (rawF al of x i)) (val (dF al of x i)) := by
  have key : Fl.Fin (rawF al of x i) → Fl.Fin (rawF al of x i) ∧ Fl.Fin (dF al of x i) ∧ Clamp (-TV) (val (rawF al of x i)) (val (dF al of x i)) := by
    intro h
    rw [dF_raw]
    exact ⟨h, clamp_val h⟩
  induction i with
  | zero => exact key (sub_x H hx hi).1.1
  | succ i ih =>
    apply key
    obtain ⟨_, f, c⟩ := ih (by omega) (fun h => by rw [dF_raw]; exact ⟨h, clamp_val h⟩)
    obtain ⟨sb, _⟩ := sub_x H hx hi
    obtain ⟨t1, _, t3, t4⟩ := quo_o (sq_o H hi).1 f c.far
    have e := p2_half 1012
    rw [show (1012 + 1 : Int) = 1013 by rfl] at e
    have b1 := p2_mono (show (27 : Int) ≤ 1012 by omega)
    have big := p2_lt (show (1013 : Int) < 1023 by omega)
    have sb2 := sb.2
    exact ((pf_sub sb.1 t1).fin (by grind) (by grind)).1

/-- the sequence with the sign of the pivots -/
theorem ch_pos (H : InpB al of m) (hx : Bd x 50331649) : Ch (-TV) (fun i => val (al.getD i 0) - val x) (fun i => val (of.getD i 0)) (fun i => val (dF al of x i)) m := by
  refine ⟨Or.inr rfl, ?_, ?_⟩
  · have h0 : 0 < m := H.m1
    exact ⟨_, (sub_x H hx h0).2, (raw_ok H hx 0 h0).2.2⟩
  · intro i hi
    obtain ⟨_, f, c⟩ := raw_ok H hx i (by omega)
    obtain ⟨sb, sr⟩ := sub_x H hx hi
    obtain ⟨qb, qr⟩ := sq_o H hi
    obtain ⟨t1, t2, t3, t4⟩ := quo_o qb f c.far
    have e := p2_half 1012
    rw [show (1012 + 1 : Int) = 1013 by rfl] at e
    have b1 := p2_mono (show (27 : Int) ≤ 1012 by omega)
    have big := p2_lt (show (1013 : Int) < 1023 by omega)
    have sb2 := sb.2
    have r := ((pf_sub sb.1 t1).fin (by grind) (by grind)).2
    exact ⟨_, _, _, _, sr, qr, t2, r, (raw_ok H hx (i + 1) hi).2.2⟩
theorem Ch.flip {y o E : Nat → Rat} {n : Nat} (h : Ch (-TV) y o E n) (h0 : ∀ i, i < n → E i ≠ 0) : Ch TV (fun i => - y i) o (fun i => - E i) n := by
  refine ⟨Or.inl rfl, ?_, ?_⟩
  · obtain ⟨s, a, b⟩ := h.zero
    exact ⟨_, a.neg, b.flip⟩
  · intro i hi
    obtain ⟨s, q, t, r, a1, a2, a3, a4, a5⟩ := h.succ i hi
    refine ⟨-s, q, -t, -r, a1.neg, a2, ?_, ?_, a5.flip⟩
    · have e : q / -E i = -(q / E i) := by
        have := h0 i (by omega)
        have e1 : q / E i * E i = q := Rat.div_mul_cancel this
        have e2 : q / -E i * -E i = q := Rat.div_mul_cancel (by grind)
        have e3 : (q / -E i + q / E i) * E i = 0 := by grind
        rcases Rat.mul_eq_zero.1 e3 with e4 | e4
        · grind
        · exact absurd e4 this
      rw [e]; exact a3.neg
    · have := a4.neg
      rw [show -(s - t) = -s - -t by grind] at this
      exact this
theorem d_ne (H : InpB al of m) (hx : Bd x 50331649) (i : Nat) (hi : i < m) : val (dF al of x i) ≠ 0 := by
  have := (raw_ok H hx i hi).2.2.far
  have := TV_facts.1
  grind
theorem ch_neg (H : InpB al of m) (hx : Bd x 50331649) : Ch TV (fun i => val x - val (al.getD i 0)) (fun i => val (of.getD i 0)) (fun i => - val (dF al of x i)) m := by
  have h := (ch_pos H hx).flip (d_ne H hx)
  have e : (fun i => val x - val (al.getD i 0)) = (fun i => -(val (al.getD i 0) - val x)) := by
    funext i; grind
  rw [e]; exact h

/-- all of the first n pivots are negative; are positive -/
def Neg (al of : List Nat) (x n : Nat) : Prop := ∀ i, i < n → 0 < - val (dF al of x i)
def Pos (al of : List Nat) (x n : Nat) : Prop := ∀ i, i < n → 0 < val (dF al of x i)

theorem cnt_step (H : InpB al of m) (hx : Bd x 50331649) (i : Nat) (hi : i < m) : cntF al of x (i + 1) = cntF al of x i + (if val (dF al of x i) < 0 then 1 else 0) := by
  show _ + (if ltF (dF al of x i) 0 then 1 else 0) = _
  rw [lt_order (raw_ok H hx i hi).2.1 fin_zero, val_zero]
  by_cases h : val (dF al of x i) < 0
  · rw [decide_eq_true h, if_pos rfl, if_pos h]
  · rw [decide_eq_false h, if_neg (by decide), if_neg h]
theorem neg_iff (H : InpB al of m) (hx : Bd x 50331649) (n : Nat) (hn : n ≤ m) : cntF al of x n = n ↔ Neg al of x n := by
  induction n with
  | zero => exact ⟨fun _ i hi => by omega, fun _ => rfl⟩
  | succ n ih =>
    have ih := ih (by omega)
    have hc := cnt_le al of x n
    rw [cnt_step H hx n (by omega)]
    constructor
    · intro h
      by_cases hl : val (dF al of x n) < 0
      · rw [if_pos hl] at h
        intro i hi
        by_cases e : i = n
        · subst e; grind
        · exact ih.1 (by omega) i (by omega)
      · rw [if_neg hl] at h; omega
    · intro h
      have := h n (by omega)
      rw [if_pos (by grind), ih.2 (fun i hi => h i (by omega))]
theorem pos_iff (H : InpB al of m) (hx : Bd x 50331649) (n : Nat) (hn : n ≤ m) : cntF al of x n = 0 ↔ Pos al of x n := by
  induction n with
  | zero => exact ⟨fun _ i hi => by omega, fun _ => rfl⟩
  | succ n ih =>
    have ih := ih (by omega)
    rw [cnt_step H hx n (by omega)]
    constructor
    · intro h
      by_cases hl : val (dF al of x n) < 0
      · rw [if_pos hl] at h; omega
      · rw [if_neg hl] at h
        intro i hi
        by_cases e : i = n
        · subst e
          have := d_ne H hx i (by omega)
          grind
        · exact ih.1 (by omega) i (by omega)
    · intro h
      have := h n (by omega)
      rw [if_neg (by grind), ih.2 (fun i hi => h i (by omega))]
end
end Go.Proofs.Qxb6605993a
