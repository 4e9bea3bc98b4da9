/- The walks of ZZextremeRitzValues and of zzRowSumBound. -/
import Derived.Test.Qxb6605993aRitz
namespace Go.Proofs.Qxb6605993a
open Go.ChangeShapes Go.WideShapes Go.ChangeAt Go.RowKit
attribute [local go_sem] run_fadd run_fsub run_fmul run_fquo run_store_float unary_fneg

set_option maxHeartbeats 1000000 in
theorem zzritz12 (A O m ca lb co : Nat) (al be : List Nat) (w : World) (hA : FB w A al) (hO : FB w O be) (lbe : lb ≤ be.length) (hlb : m ≤ lb) (hco : lb ≤ co)
    (hmx : m ≤ 1048576) (la : m ≤ al.length) (H : InpB al be m) (o64 : W64 be) :
    Calls Try.prog 12 #[.slice (some ⟨A, 0, none⟩) m ca, .slice (some ⟨O, 0, none⟩) lb co] w fun e w' => ∃ hi lo he le, e = .returned (.tuple #[.float .f64 hi, .float .f64 lo, .float .f64 he, .float .f64 le]) ∧ Ritz al be m hi lo he le ∧ Below w.heap.size w w' := by
  go_enter Try.func12, Try.ntmps12
  go_wp2_with fail
  refine (ritz26 A O m ca lb co al be w hA hO lbe hlb hco hmx la H o64).mono ?_
  rintro e W1 ⟨hi, lo, he, le, rfl, hR, hb⟩
  have HR : Hid (Ritz al be m hi lo he le) := hR
  clear hR
  go_wp2
  go_region
  all_goals go_wp2
  refine bodyPost_ret (v := .tuple #[.float .f64 hi, .float .f64 lo, .float .f64 he, .float .f64 le]) ?_ rfl ?_
  · simp [results, Try.results12, go_sem]
  exact ⟨hi, lo, he, le, rfl, HR.out, (hb.alloc hb.size _).drew⟩

/-! ### zzRowSumBound -/
def srow1 (al be : List Nat) (j : Nat) : Nat := if 0 < j then pf .add (zabsF (al.getD j 0)) (zabsF (be.getD (j - 1) 0)) else zabsF (al.getD j 0)
def srow2 (al be : List Nat) (m j : Nat) : Nat := if j + 1 < m then pf .add (srow1 al be j) (zabsF (be.getD j 0)) else srow1 al be j
def grow (al be : List Nat) (m : Nat) : Nat → Nat
  | 0 => 0
  | j + 1 => zmaxF (grow al be m j) (srow2 al be m j)

theorem zabs_val {x : Nat} (hf : Fl.Fin x) (h64 : x < 18446744073709551616) : Eqv (zabsF x) (aV x) := by
  have ha := aV_facts x
  unfold zabsF
  rw [lt_order hf fin_zero, val_zero]
  by_cases h : Fl.val x < 0
  · rw [decide_eq_true h, if_pos rfl]
    exact ⟨fin_negW hf, by rw [val_negW h64]; grind⟩
  · rw [decide_eq_false h, if_neg (by decide)]
    exact ⟨hf, by grind⟩
theorem zmax_facts {x y : Nat} (hx : Fl.Fin x) (hy : Fl.Fin y) : (zmaxF x y = x ∨ zmaxF x y = y) ∧ Fl.val x ≤ Fl.val (zmaxF x y) ∧ Fl.val y ≤ Fl.val (zmaxF x y) := by
  unfold zmaxF
  rw [gt_order hx hy]
  by_cases h : Fl.val y < Fl.val x
  · rw [decide_eq_true h, if_pos rfl]; exact ⟨Or.inl rfl, Rat.le_refl, Rat.le_of_lt h⟩
  · rw [decide_eq_false h, if_neg (by decide)]; exact ⟨Or.inr rfl, by grind, Rat.le_refl⟩
theorem zmin_facts {x y : Nat} (hx : Fl.Fin x) (hy : Fl.Fin y) : (zminF x y = x ∨ zminF x y = y) ∧ Fl.val (zminF x y) ≤ Fl.val x ∧ Fl.val (zminF x y) ≤ Fl.val y := by
  unfold zminF
  rw [lt_order hx hy]
  by_cases h : Fl.val x < Fl.val y
  · rw [decide_eq_true h, if_pos rfl]; exact ⟨Or.inl rfl, Rat.le_refl, Rat.le_of_lt h⟩
  · rw [decide_eq_false h, if_neg (by decide)]; exact ⟨Or.inr rfl, by grind, Rat.le_refl⟩

section
variable {al be : List Nat} {m : Nat}
theorem srow_val (H : InpB al be m) (a64 : W64 al) (o64 : W64 be) {j : Nat} (hj : j < m) :
    Fl.Fin (srow1 al be j) ∧ Bd (srow2 al be m j) 50331648 ∧ 0 ≤ Fl.val (srow2 al be m j) ∧ aV (al.getD j 0) + ro1 be j + ro2 be m j ≤ Fl.val (srow2 al be m j) + 1 / 10000000 := by
  obtain ⟨u1, u2, u3, u4, u5⟩ := u_nums
  have A := H.al j hj
  have za := zabs_val A.1 (a64.get j)
  have ua := aV_le A
  have va := aV_facts (al.getD j 0)
  rw [nums.1] at ua
  have b1 := ro1_facts H hj
  have b2 := ro2_facts H j
  have s1 : Fl.Fin (srow1 al be j) ∧ Fl.RN (aV (al.getD j 0) + ro1 be j) (Fl.val (srow1 al be j)) := by
    unfold srow1 ro1 at *
    split
    · rename_i h
      rw [if_pos h] at b1
      have B := H.of (j - 1) (by omega)
      have zb := zabs_val B.1 (o64.get (j - 1))
      have q := pf_add za.1 zb.1
      rw [za.2, zb.2] at q
      exact q.small (by have := nums.2.2; grind) (by have := nums.2.2; grind)
    · refine ⟨za.1, ?_⟩
      rw [za.2, show aV (al.getD j 0) + 0 = aV (al.getD j 0) by grind]
      exact Fl.rn_val _
  have e1 := s1.2.err (b := 50331648) (by grind) (by grind)
  have n1 := s1.2.nonneg (by grind)
  have r25 := rn_p2 25 (by omega)
  rw [nums.2.1] at r25
  have m1 := s1.2.mono r25 (by grind)
  refine ⟨s1.1, ?_⟩
  unfold srow2 ro2 at *
  split
  · rename_i h
    rw [if_pos h] at b2
    have B := H.of j h
    have zb := zabs_val B.1 (o64.get j)
    have q := pf_add s1.1 zb.1
    rw [zb.2] at q
    obtain ⟨bd, rn⟩ := bd_K q (by grind) (by grind)
    have e2 := rn.err (b := 50331648) (by grind) (by grind)
    exact ⟨bd, rn.nonneg (by grind), by grind⟩
  · exact ⟨⟨s1.1, by grind, by grind⟩, n1, by grind⟩
theorem grow_facts (H : InpB al be m) (a64 : W64 al) (o64 : W64 be) (j : Nat) (hj : j ≤ m) :
    Bd (grow al be m j) 50331648 ∧ 0 ≤ Fl.val (grow al be m j) ∧ ∀ i, i < j → aV (al.getD i 0) + ro1 be i + ro2 be m i ≤ Fl.val (grow al be m j) + 1 / 10000000 := by
  induction j with
  | zero => exact ⟨⟨fin_zero, by show Fl.val 0 ≤ _; rw [val_zero]; grind, by show _ ≤ Fl.val 0; rw [val_zero]; grind⟩, by show 0 ≤ Fl.val 0; rw [val_zero]; grind, fun i hi => by omega⟩
  | succ j ih =>
    obtain ⟨b, n, a⟩ := ih (by omega)
    obtain ⟨_, sb, s0, s1⟩ := srow_val H a64 o64 (show j < m by omega)
    obtain ⟨e, m1, m2⟩ := zmax_facts b.1 sb.1
    show Bd (zmaxF _ _) _ ∧ 0 ≤ Fl.val (zmaxF _ _) ∧ ∀ i, i < j + 1 → _ ≤ Fl.val (zmaxF _ _) + _
    refine ⟨?_, by grind, fun i hi => ?_⟩
    · rcases e with e | e <;> rw [e] <;> assumption
    · by_cases h : i = j
      · subst h; grind
      · have := a i (by omega); grind
end

set_option maxHeartbeats 2000000 in
theorem rowsum13 (A O m ca lb co : Nat) (al be : List Nat) (w : World) (hA : FB w A al) (hO : FB w O be) (lbe : m ≤ be.length) (hlb : m ≤ lb)
    (hmx : m ≤ 1048576) (la : m ≤ al.length) (H : InpB al be m) (a64 : W64 al) (o64 : W64 be) :
    Calls Try.prog 13 #[.slice (some ⟨A, 0, none⟩) m ca, .slice (some ⟨O, 0, none⟩) lb co, .int .i64 m] w fun e w' => ∃ n, e = .returned (.float .f64 (grow al be m m)) ∧ w' = w.drewN n := by
  go_enter Try.func13, Try.ntmps13
  go_wp2
  go_loopw [7, 8, 9] (fun g i _ wr => ∃ j n : Nat, j ≤ m ∧ i = .int .i64 j ∧ g = .float .f64 (grow al be m j) ∧ wr = w.drewN n) (fun _ i _ _ => m - (intOf i).toNat)
  case atStart => exact ⟨0, 0, Nat.zero_le _, rfl, rfl, rfl⟩
  case round =>
    obtain ⟨j, n, hj, rfl, rfl, rfl⟩ := hrel
    by_cases hlt : j < m
    · have c1 := hA.cell (show j < al.length by omega)
      have c2 := hO.cell (show j < be.length by omega)
      have c3 := hO.cell (show j - 1 < be.length by omega)
      obtain ⟨f1, ⟨f2, _⟩, _⟩ := srow_val H a64 o64 hlt
      have HG : Hid (zmaxF (grow al be m j) (srow2 al be m j) = grow al be m (j + 1)) := rfl
      have b0 : (j : Int) < (m : Int) := by omega
      have b1 : (j : Int) < (lb : Int) := by omega
      have E1 : 0 < j → ∀ w, fv .add (zabsF (al.getD j 0)) (zabsF (be.getD (j - 1) 0)) w = srow1 al be j := fun h w => by
        unfold srow1 at f1 ⊢; rw [if_pos h] at f1 ⊢; exact fv_fin f1 w
      have E1' : ¬ 0 < j → zabsF (al.getD j 0) = srow1 al be j := fun h => by unfold srow1; rw [if_neg h]
      have E2 : j + 1 < m → ∀ w, fv .add (srow1 al be j) (zabsF (be.getD j 0)) w = srow2 al be m j := fun h w => by
        unfold srow2 at f2 ⊢; rw [if_pos h] at f2 ⊢; exact fv_fin f2 w
      have E2' : ¬ j + 1 < m → srow1 al be j = srow2 al be m j := fun h => by unfold srow2; rw [if_neg h]
      generalize srow2 al be m j = S2 at *
      generalize srow1 al be j = S1 at *
      generalize al.getD j 0 = a at *
      generalize be.getD j 0 = o2 at *
      generalize be.getD (j - 1) 0 = o1 at *
      generalize grow al be m j = g at *
      clear f1 f2
      by_cases h0 : 0 < j
      · have e1 := E1 h0
        have c3' : w.cell? ⟨O, ((j : Int) - 1).toNat, none⟩ = some (.float .f64 o1) := by rw [show ((j : Int) - 1).toNat = j - 1 by omega]; exact c3
        have b2 : (0 : Int) < (j : Int) := by omega
        have b3 : (0 : Int) ≤ (j : Int) - 1 := by omega
        have b4 : (j : Int) - 1 < (lb : Int) := by omega
        clear E1 E1'
        by_cases h1 : j + 1 < m
        · have e2 := E2 h1
          have b5 : (j : Int) + 1 < (m : Int) := by omega
          clear E2 E2'
          go_wp2_with (first
            | (go_at_call 14; refine (zabs14 _ _).mono ?_; rintro e w' ⟨rfl, rfl⟩)
            | (go_at_call 15; refine (zmax15 _ _ _).mono ?_; rintro e w' ⟨rfl, rfl⟩))
          go_roundw
          case rel => exact ⟨j + 1, _, by omega, by go_num, by rw [HG.out], rfl⟩
          case measure => simp [intOf]; omega
        · obtain rfl := E2' h1
          have b5 : ¬ (j : Int) + 1 < (m : Int) := by omega
          clear E2 E2'
          go_wp2_with (first
            | (go_at_call 14; refine (zabs14 _ _).mono ?_; rintro e w' ⟨rfl, rfl⟩)
            | (go_at_call 15; refine (zmax15 _ _ _).mono ?_; rintro e w' ⟨rfl, rfl⟩))
          go_roundw
          case rel => exact ⟨j + 1, _, by omega, by go_num, by rw [HG.out], rfl⟩
          case measure => simp [intOf]; omega
      · obtain rfl := E1' h0
        obtain rfl : j = 0 := by omega
        clear E1 E1' c3
        by_cases h1 : 0 + 1 < m
        · have e2 := E2 h1
          have b5 : (1 : Int) < (m : Int) := by omega
          clear E2 E2'
          go_wp2_with (first
            | (go_at_call 14; refine (zabs14 _ _).mono ?_; rintro e w' ⟨rfl, rfl⟩)
            | (go_at_call 15; refine (zmax15 _ _ _).mono ?_; rintro e w' ⟨rfl, rfl⟩))
          go_roundw
          case rel => exact ⟨1, _, by omega, by go_num, by rw [HG.out], rfl⟩
          case measure => simp [intOf]; omega
        · obtain rfl := E2' h1
          have b5 : ¬ (1 : Int) < (m : Int) := by omega
          clear E2 E2'
          go_wp2_with (first
            | (go_at_call 14; refine (zabs14 _ _).mono ?_; rintro e w' ⟨rfl, rfl⟩)
            | (go_at_call 15; refine (zmax15 _ _ _).mono ?_; rintro e w' ⟨rfl, rfl⟩))
          go_roundw
          case rel => exact ⟨1, _, by omega, by go_num, by rw [HG.out], rfl⟩
          case measure => simp [intOf]; omega
    · obtain rfl : j = m := by omega
      go_wp2
      go_ret
      exact ⟨_, rfl, rfl⟩
end Go.Proofs.Qxb6605993a
