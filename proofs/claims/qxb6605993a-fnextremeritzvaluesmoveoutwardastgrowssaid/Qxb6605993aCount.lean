/- The walk of eigenvaluesBelow. -/
import Derived.Test.Qxb6605993aCountF
import Derived.Test.Qxb6605993aUnit
import Derived.Test.Qxb6605993aSolveM
namespace Go.Proofs.Qxb6605993a
open Go.ChangeShapes Go.WideShapes Go.ChangeAt Go.RowKit
attribute [local go_sem] run_fadd run_fsub run_fmul run_fquo run_store_float unary_fneg

theorem cn_TP : cn 268231017195544690 = 268231017195544690 := by decide
theorem cn_NTP : cn 9491603054050320498 = 9491603054050320498 := by decide
theorem clampF_cn (d : Nat) : cn (clampF d) = clampF (cn d) := by
  unfold clampF
  rw [absF_cn]
  have e : ltF (cn (absF d)) 268231017195544690 = ltF (absF d) 268231017195544690 := by rw [← cn_TP, ltF_cn, cn_TP]
  rw [e]
  split
  · exact cn_NTP
  · rfl
theorem clamp_yes {d : Nat} (h : (FloatKind.f64.format.order (absF d) 268231017195544690 == some .lt) = true) : 9491603054050320498 = clampF d := by
  unfold clampF; rw [if_pos (show ltF (absF d) 268231017195544690 = true from h)]
theorem clamp_no {d : Nat} (h : (FloatKind.f64.format.order (absF d) 268231017195544690 == some .lt) = false) : d = clampF d := by
  unfold clampF; rw [if_neg (by rw [show ltF (absF d) 268231017195544690 = false from h]; decide)]

/-- the d-th pivot's raw value -/
def rawF (al of : List Nat) (x : Nat) : Nat → Nat
  | 0 => pf .sub (al.getD 0 0) x
  | i + 1 => pivN (al.getD (i + 1) 0) x (of.getD i 0) (dF al of x i)
theorem dF_raw (al of : List Nat) (x i : Nat) : dF al of x i = clampF (rawF al of x i) := by cases i <;> rfl

theorem cnt_neg {al of : List Nat} {x j d : Nat} (h : cn d = dF al of x j) (hl : (FloatKind.f64.format.order d 0 == some .lt) = true) : cntF al of x (j + 1) = cntF al of x j + 1 := by
  have e : ltF (dF al of x j) 0 = true := by rw [← h, ← cn_zero, ltF_cn]; exact hl
  show _ + (if ltF (dF al of x j) 0 then 1 else 0) = _
  rw [e, if_pos rfl]
theorem cnt_pos {al of : List Nat} {x j d : Nat} (h : cn d = dF al of x j) (hl : (FloatKind.f64.format.order d 0 == some .lt) = false) : cntF al of x (j + 1) = cntF al of x j := by
  have e : ltF (dF al of x j) 0 = false := by rw [← h, ← cn_zero, ltF_cn]; exact hl
  show _ + (if ltF (dF al of x j) 0 then 1 else 0) = _
  rw [e, if_neg (by decide), Nat.add_zero]

theorem raw0 {al of : List Nat} {x a : Nat} (w : World) (ha : a = al.getD 0 0) : cn (fv .sub a x w) = rawF al of x 0 := by
  rw [cn_fv, ha]; rfl
theorem rawS {al of : List Nat} {x a o d j : Nat} {w1 w2 w3 w4 : World} (ha : a = al.getD (j + 1) 0) (ho : o = of.getD j 0) (hd : cn d = dF al of x j) :
    cn (fv .sub (fv .sub a x w1) (fv .quo (fv .mul o o w2) d w3) w4) = rawF al of x (j + 1) := by
  rw [cn_fv, ← pf_cn .sub, cn_fv, cn_fv, ← pf_cn .quo, cn_fv, hd, ha, ho]
  rfl

theorem at_next {al of : List Nat} {x j r : Nat} (h : cn r = dF al of x j) : ∀ t, j + 1 = t + 1 → cn r = dF al of x t := by
  intro t ht
  obtain rfl : j = t := by omega
  exact h
theorem int_eq {a b : Int} (h : a = b) : Value.int .i64 a = .int .i64 b := by rw [h]
theorem cnt_neg' {al of : List Nat} {x j d c : Nat} (hc : c = cntF al of x j) (h : cn d = dF al of x j) (hl : (FloatKind.f64.format.order d 0 == some .lt) = true) : Value.int .i64 ((c : Int) + 1) = .int .i64 (cntF al of x (j + 1)) := by
  rw [cnt_neg h hl, hc]; rfl
theorem cnt_pos' {al of : List Nat} {x j d c : Nat} (hc : c = cntF al of x j) (h : cn d = dF al of x j) (hl : (FloatKind.f64.format.order d 0 == some .lt) = false) : Value.int .i64 (c : Int) = .int .i64 (cntF al of x (j + 1)) := by
  rw [cnt_pos h hl, hc]
theorem clamped_yes {al of : List Nat} {x j d : Nat} (hd : cn d = rawF al of x j) (h : (FloatKind.f64.format.order (absF d) 268231017195544690 == some .lt) = true) : cn 9491603054050320498 = dF al of x j := by
  rw [clamp_yes h, clampF_cn, hd, ← dF_raw]
theorem clamped_no {al of : List Nat} {x j d : Nat} (hd : cn d = rawF al of x j) (h : (FloatKind.f64.format.order (absF d) 268231017195544690 == some .lt) = false) : cn d = dF al of x j := by
  have e := clamp_no h
  rw [e, clampF_cn, hd, ← dF_raw]
theorem cnt_le (al of : List Nat) (x j : Nat) : cntF al of x j ≤ j := by
  induction j with
  | zero => exact Nat.le_refl _
  | succ j ih => show _ + (if ltF (dF al of x j) 0 then 1 else 0) ≤ _; split <;> omega

set_option maxHeartbeats 2000000 in
theorem below35 (A O m ca lo co x : Nat) (po : Option Addr) (al of : List Nat) (w : World) (hA : FB w A al)
    (hO : 1 < m → po = some ⟨O, 0, none⟩ ∧ FB w O of ∧ m ≤ lo + 1 ∧ lo ≤ of.length)
    (hm : 1 ≤ m) (hmx : m ≤ 1048576) (la : m ≤ al.length) :
    Calls Try.prog 35 #[.slice (some ⟨A, 0, none⟩) m ca, .slice po lo co, .float .f64 x] w fun e w' => ∃ n, e = .returned (.int .i64 (cntF al of x m)) ∧ w' = w.drewN n := by
  have HO : Hid (1 < m → po = some ⟨O, 0, none⟩ ∧ FB w O of ∧ m ≤ lo + 1 ∧ lo ≤ of.length) := hO
  clear hO
  go_enter Try.func35, Try.ntmps35
  go_wp2
  go_loopw [7, 8, 9, 10, 13] (fun c d _ _ i wr => ∃ j r n : Nat, j ≤ m ∧ i = .int .i64 j ∧ c = .int .i64 (cntF al of x j) ∧ d = .float .f64 r ∧ r < 18446744073709551616 ∧ (∀ t, j = t + 1 → cn r = dF al of x t) ∧ wr = w.drewN n) (fun _ _ _ _ i _ => m - (intOf i).toNat)
  case atStart => exact ⟨0, _, 0, Nat.zero_le _, rfl, rfl, rfl, by decide, fun t h => by omega, rfl⟩
  case round =>
    obtain ⟨j, r, n, hj, rfl, rfl, rfl, r64, hr, rfl⟩ := hrel
    have HR : Hid (∀ t, j = t + 1 → cn r = dF al of x t) := hr
    clear hr
    by_cases hlt : j < m
    · have c1 := hA.cell (show j < al.length by omega)
      obtain ⟨a, ha⟩ : ∃ v, v = al.getD j 0 := ⟨_, rfl⟩
      rw [← ha] at c1
      have HAA : Hid (a = al.getD j 0) := ha
      clear ha
      obtain ⟨c, hc⟩ : ∃ c, c = cntF al of x j := ⟨_, rfl⟩
      have cm : c ≤ m := by have := cnt_le al of x j; omega
      rw [← hc]
      have HC : Hid (c = cntF al of x j) := hc
      clear hc
      by_cases h0 : j = 0
      · subst h0
        go_wp2_with fail
        refine (abs29 _ (fv_lt _ _ _ _) _).mono ?_
        rintro e w' ⟨rfl, hw⟩
        have hw' := hw.symm
        clear hw
        subst hw'
        obtain ⟨d, hd⟩ : ∃ d, d = fv .sub a x (w.drewN n) := ⟨_, rfl⟩
        have hd64 : d < 18446744073709551616 := by rw [hd]; exact fv_lt _ _ _ _
        have HD : Hid (cn d = rawF al of x 0) := by rw [hd]; exact raw0 _ HAA.out
        rw [← hd]
        clear hd
        generalize n + dn .sub a x = n' at *
        go_wp2
        · have h : (FloatKind.f64.format.order (absF d) 268231017195544690 == some .lt) = true := by assumption
          have he : cn 9491603054050320498 = dF al of x 0 := by rw [clamp_yes h, clampF_cn, HD.out, ← dF_raw]
          have HE : Hid (cn 9491603054050320498 = dF al of x 0) := he
          clear he
          go_roundw
          case rel => exact ⟨0 + 1, _, _, by omega, by go_num, cnt_neg' HC.out HE.out (by assumption), rfl, by decide, at_next HE.out, rfl⟩
          case measure => simp [intOf]; omega
        · have h : (FloatKind.f64.format.order (absF d) 268231017195544690 == some .lt) = false := by assumption
          have he : cn d = dF al of x 0 := by rw [clamp_no h, clampF_cn, HD.out, ← dF_raw]
          have HE : Hid (cn d = dF al of x 0) := he
          clear he
          go_roundw
          case rel => exact ⟨0 + 1, _, _, by omega, by go_num, cnt_neg' HC.out HE.out (by assumption), rfl, hd64, at_next HE.out, rfl⟩
          case measure => simp [intOf]; omega
        · have h : (FloatKind.f64.format.order (absF d) 268231017195544690 == some .lt) = false := by assumption
          have he : cn d = dF al of x 0 := by rw [clamp_no h, clampF_cn, HD.out, ← dF_raw]
          have HE : Hid (cn d = dF al of x 0) := he
          clear he
          go_roundw
          case rel => exact ⟨0 + 1, _, _, by omega, by go_num, cnt_pos' HC.out HE.out (by assumption), rfl, hd64, at_next HE.out, rfl⟩
          case measure => simp [intOf]; omega
      · obtain ⟨t, rfl⟩ : ∃ t, j = t + 1 := ⟨j - 1, by omega⟩
        obtain ⟨hpo, hO, _, _⟩ := HO.out (by omega)
        subst hpo
        have c2 := hO.cell (show t < of.length by omega)
        obtain ⟨o, ho⟩ : ∃ v, v = of.getD t 0 := ⟨_, rfl⟩
        rw [← ho] at c2
        have HOO : Hid (o = of.getD t 0) := ho
        clear ho h0
        have b1 : (t : Int) < (lo : Int) := by omega
        have b2 : ((t + 1 : Nat) : Int) - 1 = (t : Int) := by omega
        have b3 : ¬ (((t + 1 : Nat) : Int) = 0) := by omega
        obtain ⟨D, hD⟩ : ∃ D : World → World → World → World → Nat, ∀ w1 w2 w3 w4, fv .sub (fv .sub a x w1) (fv .quo (fv .mul o o w2) r w3) w4 = D w1 w2 w3 w4 := ⟨_, fun _ _ _ _ => rfl⟩
        have HD64 : Hid (∀ w1 w2 w3 w4, D w1 w2 w3 w4 < 18446744073709551616) := fun w1 w2 w3 w4 => by rw [← hD]; exact fv_lt _ _ _ _
        have HDD : Hid (∀ w1 w2 w3 w4, cn (D w1 w2 w3 w4) = rawF al of x (t + 1)) := fun w1 w2 w3 w4 => by
          rw [← hD]; exact rawS HAA.out HOO.out (HR.out t rfl)
        have HDE : Hid (∀ w1 w2 w3 w4, fv .sub (fv .sub a x w1) (fv .quo (fv .mul o o w2) r w3) w4 = D w1 w2 w3 w4) := hD
        clear hD
        go_wp2_with fail
        go_region
        all_goals
          go_wp2_with fail
          rw [HDE.out]
          refine (abs29 _ (HD64.out _ _ _ _) _).mono ?_
          rintro e w' ⟨rfl, hw⟩
          have hw' := hw.symm
          clear hw
          subst hw'
          go_wp2
          · have HE := clamped_yes (HDD.out _ _ _ _) (by assumption)
            go_roundw
            case rel => exact ⟨t + 1 + 1, _, _, by omega, by go_num, cnt_neg' HC.out HE (by assumption), rfl, by decide, at_next HE, rfl⟩
            case measure => simp [intOf]; omega
          · have HE := clamped_no (HDD.out _ _ _ _) (by assumption)
            go_roundw
            case rel => exact ⟨t + 1 + 1, _, _, by omega, by go_num, cnt_neg' HC.out HE (by assumption), rfl, HD64.out _ _ _ _, at_next HE, rfl⟩
            case measure => simp [intOf]; omega
          · have HE := clamped_no (HDD.out _ _ _ _) (by assumption)
            go_roundw
            case rel => exact ⟨t + 1 + 1, _, _, by omega, by go_num, cnt_pos' HC.out HE (by assumption), rfl, HD64.out _ _ _ _, at_next HE, rfl⟩
            case measure => simp [intOf]; omega
    · obtain rfl : j = m := by omega
      go_wp2
      go_ret
      exact ⟨_, rfl, rfl⟩
end Go.Proofs.Qxb6605993a
