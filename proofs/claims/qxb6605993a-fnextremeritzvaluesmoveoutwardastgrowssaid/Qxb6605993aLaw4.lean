/- The walk of the law FnExtremeRitzValuesBetweenRayleighAndGershgorin. -/
import Derived.Test.Qxb6605993aL4F
namespace Go.Proofs.Qxb6605993a
open Go.ChangeShapes Go.WideShapes Go.ChangeAt Go.RowKit
attribute [local go_sem] run_fadd run_fsub run_fmul run_fquo run_store_float unary_fneg

theorem bytes9 (a0 a1 : Option Addr) (l0 c0 l1 c1 : Nat) (w : World) (h : l0 + l1 ≤ 1048576) :
    Calls Try.prog 9 #[.slice a0 l0 c0, .slice a1 l1 c1] w fun e w' => e = .returned (.bool true) ∧ w' = w := by
  go_enter Try.func9, Try.ntmps9
  go_wp2
  all_goals (go_ret; exact ⟨rfl, rfl⟩)
theorem bytes9no (a0 a1 : Option Addr) (l0 c0 l1 c1 : Nat) (w : World) (h0 : l0 ≤ maxLen) (h1 : l1 ≤ maxLen) (h : 1048576 < l0 + l1) :
    Calls Try.prog 9 #[.slice a0 l0 c0, .slice a1 l1 c1] w fun e w' => e = .returned (.bool false) ∧ w' = w := by
  unfold maxLen at h0 h1
  go_enter Try.func9, Try.ntmps9
  go_wp2
  all_goals (go_ret; exact ⟨rfl, rfl⟩)

set_option maxRecDepth 100000 in
theorem law4_far (a0 a1 : Option Addr) (l0 c0 l1 c1 : Nat) (w : World) (h0 : l0 ≤ maxLen) (h1 : l1 ≤ maxLen) (h : 1048576 < l0 + l1) :
    Calls Try.prog 4 #[.slice a0 l0 c0, .slice a1 l1 c1] w fun e w' => e = .returned (.bool true) ∧ Below w.heap.size w w' := by
  go_enter Try.func4, Try.ntmps4
  go_wp2_with (go_at_call 9; refine (bytes9no _ _ _ _ _ _ _ h0 h1 h).mono ?_; rintro e w' ⟨rfl, rfl⟩)
  go_ret
  exact ⟨rfl, Below.refl _ _⟩

set_option maxRecDepth 100000 in
theorem law4_out (a0 a1 : Option Addr) (l0 c0 l1 c1 : Nat) (w : World) (h : l0 + l1 ≤ 1048576) (hbad : 65536 < l0 ∨ 65536 < l1 ∨ l0 < 1 ∨ l1 < l0) :
    Calls Try.prog 4 #[.slice a0 l0 c0, .slice a1 l1 c1] w fun e w' => e = .returned (.bool true) ∧ Below w.heap.size w w' := by
  by_cases h1 : 65536 < l0
  · go_enter Try.func4, Try.ntmps4
    go_wp2_with (go_at_call 9; refine (bytes9 _ _ _ _ _ _ _ h).mono ?_; rintro e w' ⟨rfl, rfl⟩)
    all_goals (go_ret; exact ⟨rfl, Below.refl _ _⟩)
  · by_cases h2 : 65536 < l1
    · go_enter Try.func4, Try.ntmps4
      go_wp2_with (go_at_call 9; refine (bytes9 _ _ _ _ _ _ _ h).mono ?_; rintro e w' ⟨rfl, rfl⟩)
      all_goals (go_ret; exact ⟨rfl, Below.refl _ _⟩)
    · by_cases h3 : l0 < 1
      · go_enter Try.func4, Try.ntmps4
        go_wp2_with (go_at_call 9; refine (bytes9 _ _ _ _ _ _ _ h).mono ?_; rintro e w' ⟨rfl, rfl⟩)
        all_goals (go_ret; exact ⟨rfl, Below.refl _ _⟩)
      · have h4 : l1 < l0 := by omega
        have h5 : (l1 : Int) < (l0 : Int) := by omega
        go_enter Try.func4, Try.ntmps4
        go_wp2_with (go_at_call 9; refine (bytes9 _ _ _ _ _ _ _ h).mono ?_; rintro e w' ⟨rfl, rfl⟩)
        all_goals (go_ret; exact ⟨rfl, Below.refl _ _⟩)

set_option maxRecDepth 100000 in
theorem law4_not (a0 a1 : Option Addr) (l0 c0 l1 c1 : Nat) (z0 z1 : List Nat) (w : World) (r0 : IsRowF w a0 l0 c0 z0) (r1 : IsRowF w a1 l1 c1 z1) (h0 : l0 ≤ 65536) (h1 : l1 ≤ 65536) (h2 : 1 ≤ l0) (h3 : l0 ≤ l1)
    (b0 b1 : Bool) (e0 : allWithin z0 4715268809856909312 l0 = b0) (e1 : allWithin z1 4715268809856909312 l0 = b1) (hbad : (b0 && b1) = false) :
    Calls Try.prog 4 #[.slice a0 l0 c0, .slice a1 l1 c1] w fun e w' => e = .returned (.bool true) ∧ Below w.heap.size w w' := by
  have h4 : ¬ (l1 : Int) < (l0 : Int) := by omega
  cases b0
  · go_enter Try.func4, Try.ntmps4
    go_wp2_with fail
    refine (bytes9 _ _ _ _ _ _ _ (by omega)).mono ?_
    rintro e w' ⟨rfl, hw⟩
    have hw' := hw.symm
    clear hw
    subst hw'
    go_wp2_with fail
    refine (allWithin10 a0 l0 c0 l0 _ z0 _ r0 (Nat.le_refl _) (by omega)).mono ?_
    rintro e w' ⟨rfl, hw⟩
    have hw' := hw.symm
    clear hw
    subst hw'
    rw [e0]
    go_wp2
    go_ret
    exact ⟨rfl, Below.refl _ _⟩
  · cases b1
    · go_enter Try.func4, Try.ntmps4
      go_wp2_with fail
      refine (bytes9 _ _ _ _ _ _ _ (by omega)).mono ?_
      rintro e w' ⟨rfl, hw⟩
      have hw' := hw.symm
      clear hw
      subst hw'
      go_wp2_with fail
      refine (allWithin10 a0 l0 c0 l0 _ z0 _ r0 (Nat.le_refl _) (by omega)).mono ?_
      rintro e w' ⟨rfl, hw⟩
      have hw' := hw.symm
      clear hw
      subst hw'
      rw [e0]
      go_wp2_with fail
      refine (allWithin10 a1 l1 c1 l0 _ z1 _ r1 (by omega) (by omega)).mono ?_
      rintro e w' ⟨rfl, hw⟩
      have hw' := hw.symm
      clear hw
      subst hw'
      rw [e1]
      go_wp2
      go_ret
      exact ⟨rfl, Below.refl _ _⟩
    · cases hbad

theorem geF_yes {x y : Nat} (h : geF x y = true) : FloatKind.f64.format.order x y = some .gt ∨ FloatKind.f64.format.order x y = some .eq := by
  have h' : (FloatKind.f64.format.order x y == some .gt || FloatKind.f64.format.order x y == some .eq) = true := h
  simpa using h'
theorem leF_yes {x y : Nat} (h : leF x y = true) : FloatKind.f64.format.order x y = some .lt ∨ FloatKind.f64.format.order x y = some .eq := by
  have h' : (FloatKind.f64.format.order x y == some .lt || FloatKind.f64.format.order x y == some .eq) = true := h
  simpa using h'
theorem fin5 {hi lo X1 X2 X3 X4 X5 : Nat} (h1 : geF hi X1 = true) (h2 : leF hi X2 = true) (h3 : leF lo X3 = true) (h4 : geF lo X4 = true) (h5 : leF lo X5 = true) :
    (geF hi X1 && leF hi X2 && leF lo X3 && geF lo X4 && leF lo X5) = true := by
  rw [h1, h2, h3, h4, h5]; rfl

theorem clone11r (a : Option Addr) (len cap : Nat) (zs : List Nat) (w : World) (h : IsRowF w a len cap zs) (hl : len ≤ 1048576) (h1 : 1 ≤ len) :
    Calls Try.prog 11 #[.slice a len cap] w fun e w' => ∃ X, e = .returned (.slice (some ⟨X, 0, none⟩) len len) ∧ FB w' X zs ∧ Below w.heap.size w w' := by
  rcases h with ⟨_, h0, _⟩ | ⟨_, _, h0, _⟩ | ⟨b, off, rfl, h2, h3, h4, _⟩
  · omega
  · omega
  · refine (clone11_row b off len cap zs w h2 h3 h4 hl).mono ?_
    rintro e w' ⟨rfl, hF, hb⟩
    exact ⟨_, rfl, hF, hb⟩

set_option maxRecDepth 100000 in
set_option maxHeartbeats 4000000 in
theorem law4_main (a0 a1 : Option Addr) (l0 c0 l1 c1 : Nat) (z0 z1 : List Nat) (w : World) (r0 : IsRowF w a0 l0 c0 z0) (r1 : IsRowF w a1 l1 c1 z1) (h0 : l0 ≤ 65536) (h1 : l1 ≤ 65536) (h2 : 1 ≤ l0) (h3 : l0 ≤ l1)
    (e0 : allWithin z0 4715268809856909312 l0 = true) (e1 : allWithin z1 4715268809856909312 l0 = true) (H : InpB z0 z1 l0)
    (hlaw : ∀ hi lo he le, Ritz z0 z1 l0 hi lo he le → Fine4 z0 z1 l0 hi lo he le) :
    Calls Try.prog 4 #[.slice a0 l0 c0, .slice a1 l1 c1] w fun e w' => e = .returned (.bool true) ∧ Below w.heap.size w w' := by
  have HL : Hid (∀ hi lo he le, Ritz z0 z1 l0 hi lo he le → Fine4 z0 z1 l0 hi lo he le) := hlaw
  clear hlaw
  have h4 : ¬ (l1 : Int) < (l0 : Int) := by omega
  have a64 := r0.w64
  have o64 := r1.w64
  go_enter Try.func4, Try.ntmps4
  go_wp2_with fail
  refine (bytes9 _ _ _ _ _ _ _ (by omega)).mono ?_
  rintro e w' ⟨rfl, hw⟩
  have hw' := hw.symm
  clear hw
  subst hw'
  go_wp2_with fail
  refine (allWithin10 a0 l0 c0 l0 _ z0 _ r0 (Nat.le_refl _) (by omega)).mono ?_
  rintro e w' ⟨rfl, hw⟩
  have hw' := hw.symm
  clear hw
  subst hw'
  rw [e0]
  go_wp2_with fail
  refine (allWithin10 a1 l1 c1 l0 _ z1 _ r1 (by omega) (by omega)).mono ?_
  rintro e w' ⟨rfl, hw⟩
  have hw' := hw.symm
  clear hw
  subst hw'
  rw [e1]
  clear e0 e1
  go_wp2_with fail
  have lz0 : z0.length = l0 := r0.len_eq
  have lz1 : z1.length = l1 := r1.len_eq
  refine (clone11r a0 l0 c0 z0 _ r0 (by omega) h2).mono ?_
  rintro e W1 ⟨A, rfl, hA1, hb1⟩
  have r1' := r1.below hb1
  go_wp2_with fail
  refine (clone11r a1 l1 c1 z1 _ r1' (by omega) (by omega)).mono ?_
  rintro e W2 ⟨O, rfl, hO2, hb2⟩
  have hA2 : FB W2 A z0 := hA1.below hb2 hA1.lt
  have hb12 : Below w.heap.size w W2 := hb1.trans (hb2.mono hb1.size)
  clear hb1 hb2 hA1 r1' r0 r1
  go_wp2_with fail
  refine (zzritz12 A O l0 _ l1 _ z0 z1 W2 hA2 hO2 (by omega) h3 (Nat.le_refl _) (by omega) (by omega) H o64).mono ?_
  rintro e W3 ⟨hi, lo, he, le, rfl, hR, hb3⟩
  have hA3 : FB W3 A z0 := hA2.below hb3 hA2.lt
  have hO3 : FB W3 O z1 := hO2.below hb3 hO2.lt
  have hb13 : Below w.heap.size w W3 := hb12.trans (hb3.mono hb12.size)
  have F := HL.out hi lo he le hR
  have HF : Hid (Fine4 z0 z1 l0 hi lo he le) := F
  clear F hR hb3 hA2 hO2 hb12
  go_wp2_with fail
  refine (rowsum13 A O l0 _ l1 _ z0 z1 W3 hA3 hO3 (by omega) h3 (by omega) (by omega) H a64 o64).mono ?_
  rintro e W4 ⟨n, rfl, rfl⟩
  obtain ⟨s1, s2, _⟩ := slack_facts H a64 o64
  have es1 : ∀ w, fv .add 4607182418800017408 (grow z0 z1 l0 l0) w = one1 z0 z1 l0 := fun w => fv_fin s1 w
  have es2 : ∀ w, fv .mul 4427486594234968593 (one1 z0 z1 l0) w = slF z0 z1 l0 := fun w => fv_fin s2 w
  have k0 := hA3.cell (show 0 < z0.length by omega)
  have g0 : (0 : Int) < (l0 : Int) := by omega
  obtain ⟨x0, hx0⟩ : ∃ v, v = z0.getD 0 0 := ⟨_, rfl⟩
  rw [← hx0] at k0
  have HX0 : Hid (x0 = z0.getD 0 0) := hx0
  clear s1 s2 hx0
  go_wp2
  have HSL : Hid (pf .mul 4427486594234968593 (one1 z0 z1 l0) = slF z0 z1 l0) := rfl
  clear es1 es2 k0 g0
  go_loopw [11, 12, 13, 14, 15, 16, 17] (fun s11 s12 s13 s14 s15 _ _ wr => ∃ j n : Nat, j ≤ l0 ∧ s15 = .int .i64 j ∧ s11 = .float .f64 (ghF z0 z1 l0 j) ∧ s12 = .float .f64 (glF z0 z1 l0 j) ∧ s13 = .float .f64 (rhF z0 z1 l0 j) ∧ s14 = .float .f64 (rlF z0 z1 l0 j) ∧ wr = W3.drewN n) (fun _ _ _ _ s15 _ _ _ => l0 - (intOf s15).toNat)
  case atStart => exact ⟨0, _, Nat.zero_le _, rfl, by rw [HX0.out]; rfl, by rw [HX0.out]; rfl, by rw [HX0.out]; rfl, by rw [HX0.out]; rfl, rfl⟩
  case round =>
    obtain ⟨j, n', hj, rfl, rfl, rfl, rfl, rfl, rfl⟩ := hrel
    clear HX0
    by_cases hlt : j < l0
    · have k1 := hA3.cell (show j < z0.length by omega)
      have k2 := hO3.cell (show j < z1.length by omega)
      have b0 : (j : Int) < (l0 : Int) := by omega
      have b1 : (j : Int) < (l1 : Int) := by omega
      obtain ⟨q1, q2, _⟩ := zrad_val H o64 hlt
      obtain ⟨q3, _, q4, _⟩ := disc4 H o64 hlt
      have e3 : ∀ w, fv .add (z0.getD j 0) (zrad z1 l0 j) w = pf .add (z0.getD j 0) (zrad z1 l0 j) := fun w => fv_fin q3.1 w
      have e4 : ∀ w, fv .sub (z0.getD j 0) (zrad z1 l0 j) w = pf .sub (z0.getD j 0) (zrad z1 l0 j) := fun w => fv_fin q4.1 w
      have E1 : 0 < j → ∀ w, fv .add 0 (zabsF (z1.getD (j - 1) 0)) w = zrad1 z1 j := fun h w => by
        unfold zrad1 at q1 ⊢; rw [if_pos h] at q1 ⊢; exact fv_fin q1 w
      have E1' : ¬ 0 < j → 0 = zrad1 z1 j := fun h => by unfold zrad1; rw [if_neg h]
      have E2 : j + 1 < l0 → ∀ w, fv .add (zrad1 z1 j) (zabsF (z1.getD j 0)) w = zrad z1 l0 j := fun h w => by
        unfold zrad at q2 ⊢; rw [if_pos h] at q2 ⊢; exact fv_fin q2 w
      have E2' : ¬ j + 1 < l0 → zrad1 z1 j = zrad z1 l0 j := fun h => by unfold zrad; rw [if_neg h]
      have HGH : Hid (zmaxF (ghF z0 z1 l0 j) (pf .add (z0.getD j 0) (zrad z1 l0 j)) = ghF z0 z1 l0 (j + 1)) := rfl
      have HGL : Hid (zminF (glF z0 z1 l0 j) (pf .sub (z0.getD j 0) (zrad z1 l0 j)) = glF z0 z1 l0 (j + 1)) := rfl
      clear q1 q2 q3 q4
      by_cases h1 : j + 1 < l0
      · have HRH : Hid (zmaxF (zmaxF (rhF z0 z1 l0 j) (z0.getD j 0)) (pf .add (midR z0 j) (zabsF (z1.getD j 0))) = rhF z0 z1 l0 (j + 1)) := (if_pos h1).symm
        have HRL : Hid (zminF (zminF (rlF z0 z1 l0 j) (z0.getD j 0)) (pf .sub (midR z0 j) (zabsF (z1.getD j 0))) = rlF z0 z1 l0 (j + 1)) := (if_pos h1).symm
        obtain ⟨p1, p2', p3, p4, _, p5, _⟩ := mid4 H o64 h1
        have d1 : ∀ w, fv .quo (z0.getD j 0) 4611686018427387904 w = pf .quo (z0.getD j 0) 4611686018427387904 := fun w => fv_fin p1 w
        have d2 : ∀ w, fv .quo (z0.getD (j + 1) 0) 4611686018427387904 w = pf .quo (z0.getD (j + 1) 0) 4611686018427387904 := fun w => fv_fin p2' w
        have d3 : ∀ w, fv .add (pf .quo (z0.getD j 0) 4611686018427387904) (pf .quo (z0.getD (j + 1) 0) 4611686018427387904) w = midR z0 j := fun w => fv_fin p3 w
        have d4 : ∀ w, fv .add (midR z0 j) (zabsF (z1.getD j 0)) w = pf .add (midR z0 j) (zabsF (z1.getD j 0)) := fun w => fv_fin p4.1 w
        have d5 : ∀ w, fv .sub (midR z0 j) (zabsF (z1.getD j 0)) w = pf .sub (midR z0 j) (zabsF (z1.getD j 0)) := fun w => fv_fin p5.1 w
        have e2 := E2 h1
        have b5 : (j : Int) + 1 < (l0 : Int) := by omega
        have k3 := hA3.cell (show j + 1 < z0.length by omega)
        clear E2 E2' p1 p2' p3 p4 p5
        by_cases h0 : 0 < j
        · as_aux_lemma =>
            have e1 := E1 h0
            have k4 := hO3.cell (show j - 1 < z1.length by omega)
            have b2 : (0 : Int) < (j : Int) := by omega
            have b3 : (0 : Int) ≤ (j : Int) - 1 := by omega
            have b4 : (j : Int) - 1 < (l1 : Int) := by omega
            clear E1 E1'
            generalize pf .add (z0.getD j 0) (zrad z1 l0 j) = P at *
            generalize pf .sub (z0.getD j 0) (zrad z1 l0 j) = S at *
            generalize zrad z1 l0 j = R at *
            generalize zrad1 z1 j = R1 at *
            generalize pf .add (midR z0 j) (zabsF (z1.getD j 0)) = U at *
            generalize pf .sub (midR z0 j) (zabsF (z1.getD j 0)) = V at *
            generalize midR z0 j = Md at *
            generalize pf .quo (z0.getD j 0) 4611686018427387904 = Q1 at *
            generalize pf .quo (z0.getD (j + 1) 0) 4611686018427387904 = Q2 at *
            generalize z0.getD j 0 = a at *
            generalize z0.getD (j + 1) 0 = a' at *
            generalize z1.getD j 0 = o2 at *
            generalize z1.getD (j - 1) 0 = o1 at *
            generalize ghF z0 z1 l0 j = gh at *
            generalize glF z0 z1 l0 j = gl at *
            generalize rhF z0 z1 l0 j = rh at *
            generalize rlF z0 z1 l0 j = rl at *
            go_wp2_with (first
              | (go_at_call 14; refine (zabs14 _ _).mono ?_; rintro e w' ⟨rfl, rfl⟩)
              | (go_at_call 15; refine (zmax15 _ _ _).mono ?_; rintro e w' ⟨rfl, rfl⟩)
              | (go_at_call 16; refine (zmin16 _ _ _).mono ?_; rintro e w' ⟨rfl, rfl⟩))
            go_region
            all_goals go_wp2_with (first
              | (go_at_call 14; refine (zabs14 _ _).mono ?_; rintro e w' ⟨rfl, rfl⟩)
              | (go_at_call 15; refine (zmax15 _ _ _).mono ?_; rintro e w' ⟨rfl, rfl⟩)
              | (go_at_call 16; refine (zmin16 _ _ _).mono ?_; rintro e w' ⟨rfl, rfl⟩))
            all_goals go_roundw
            all_goals first
              | (case rel => exact ⟨j + 1, _, by omega, by first | go_num | rfl, by rw [HGH.out], by rw [HGL.out], by rw [HRH.out], by rw [HRL.out], rfl⟩)
              | (case measure => simp [intOf]; omega)
        · as_aux_lemma =>
            have z00 := E1' h0
            obtain rfl : j = 0 := by omega
            rw [← z00] at e2
            have b5' : (1 : Int) < (l0 : Int) := by omega
            clear E1 E1' z00
            generalize pf .add (z0.getD 0 0) (zrad z1 l0 0) = P at *
            generalize pf .sub (z0.getD 0 0) (zrad z1 l0 0) = S at *
            generalize zrad z1 l0 0 = R at *
            generalize pf .add (midR z0 0) (zabsF (z1.getD 0 0)) = U at *
            generalize pf .sub (midR z0 0) (zabsF (z1.getD 0 0)) = V at *
            generalize midR z0 0 = Md at *
            generalize pf .quo (z0.getD 0 0) 4611686018427387904 = Q1 at *
            generalize pf .quo (z0.getD (0 + 1) 0) 4611686018427387904 = Q2 at *
            generalize z0.getD 0 0 = a at *
            generalize z0.getD (0 + 1) 0 = a' at *
            generalize z1.getD 0 0 = o2 at *
            generalize ghF z0 z1 l0 0 = gh at *
            generalize glF z0 z1 l0 0 = gl at *
            generalize rhF z0 z1 l0 0 = rh at *
            generalize rlF z0 z1 l0 0 = rl at *
            go_wp2_with (first
              | (go_at_call 14; refine (zabs14 _ _).mono ?_; rintro e w' ⟨rfl, rfl⟩)
              | (go_at_call 15; refine (zmax15 _ _ _).mono ?_; rintro e w' ⟨rfl, rfl⟩)
              | (go_at_call 16; refine (zmin16 _ _ _).mono ?_; rintro e w' ⟨rfl, rfl⟩))
            go_region
            all_goals go_wp2_with (first
              | (go_at_call 14; refine (zabs14 _ _).mono ?_; rintro e w' ⟨rfl, rfl⟩)
              | (go_at_call 15; refine (zmax15 _ _ _).mono ?_; rintro e w' ⟨rfl, rfl⟩)
              | (go_at_call 16; refine (zmin16 _ _ _).mono ?_; rintro e w' ⟨rfl, rfl⟩))
            all_goals go_roundw
            all_goals first
              | (case rel => exact ⟨1, _, by omega, by first | go_num | rfl, by rw [HGH.out], by rw [HGL.out], by rw [HRH.out], by rw [HRL.out], rfl⟩)
              | (case measure => simp [intOf]; omega)
      · have HRH : Hid (zmaxF (rhF z0 z1 l0 j) (z0.getD j 0) = rhF z0 z1 l0 (j + 1)) := (if_neg h1).symm
        have HRL : Hid (zminF (rlF z0 z1 l0 j) (z0.getD j 0) = rlF z0 z1 l0 (j + 1)) := (if_neg h1).symm
        have e5 := E2' h1
        have b5 : ¬ (j : Int) + 1 < (l0 : Int) := by omega
        rw [e5] at E1 E1'
        clear E2 E2' e5
        by_cases h0 : 0 < j
        · as_aux_lemma =>
            have e1 := E1 h0
            have k4 := hO3.cell (show j - 1 < z1.length by omega)
            have b2 : (0 : Int) < (j : Int) := by omega
            have b3 : (0 : Int) ≤ (j : Int) - 1 := by omega
            have b4 : (j : Int) - 1 < (l1 : Int) := by omega
            clear E1 E1'
            generalize pf .add (z0.getD j 0) (zrad z1 l0 j) = P at *
            generalize pf .sub (z0.getD j 0) (zrad z1 l0 j) = S at *
            generalize zrad z1 l0 j = R at *
            generalize z0.getD j 0 = a at *
            generalize z1.getD (j - 1) 0 = o1 at *
            generalize ghF z0 z1 l0 j = gh at *
            generalize glF z0 z1 l0 j = gl at *
            generalize rhF z0 z1 l0 j = rh at *
            generalize rlF z0 z1 l0 j = rl at *
            go_wp2_with (first
              | (go_at_call 14; refine (zabs14 _ _).mono ?_; rintro e w' ⟨rfl, rfl⟩)
              | (go_at_call 15; refine (zmax15 _ _ _).mono ?_; rintro e w' ⟨rfl, rfl⟩)
              | (go_at_call 16; refine (zmin16 _ _ _).mono ?_; rintro e w' ⟨rfl, rfl⟩))
            all_goals go_roundw
            all_goals first
              | (case rel => exact ⟨j + 1, _, by omega, by first | go_num | rfl, by rw [HGH.out], by rw [HGL.out], by rw [HRH.out], by rw [HRL.out], rfl⟩)
              | (case measure => simp [intOf]; omega)
        · as_aux_lemma =>
            have z00 := E1' h0
            obtain rfl : j = 0 := by omega
            rw [← z00] at e3 e4 HGH HGL
            have b5' : ¬ (1 : Int) < (l0 : Int) := by omega
            clear E1 E1' z00
            generalize pf .add (z0.getD 0 0) (0) = P at *
            generalize pf .sub (z0.getD 0 0) (0) = S at *
            generalize z0.getD 0 0 = a at *
            generalize ghF z0 z1 l0 0 = gh at *
            generalize glF z0 z1 l0 0 = gl at *
            generalize rhF z0 z1 l0 0 = rh at *
            generalize rlF z0 z1 l0 0 = rl at *
            go_wp2_with (first
              | (go_at_call 14; refine (zabs14 _ _).mono ?_; rintro e w' ⟨rfl, rfl⟩)
              | (go_at_call 15; refine (zmax15 _ _ _).mono ?_; rintro e w' ⟨rfl, rfl⟩)
              | (go_at_call 16; refine (zmin16 _ _ _).mono ?_; rintro e w' ⟨rfl, rfl⟩))
            all_goals go_roundw
            all_goals first
              | (case rel => exact ⟨1, _, by omega, by first | go_num | rfl, by rw [HGH.out], by rw [HGL.out], by rw [HRH.out], by rw [HRL.out], rfl⟩)
              | (case measure => simp [intOf]; omega)
    · as_aux_lemma =>
        obtain rfl : j = l0 := by omega
        have kb := hO3.cell (show j - 1 < z1.length by omega)
        have F := HF.out
        have y6 : ∀ w, fv .mul (zabsF (z1.getD (j - 1) 0)) 4607182418800021912 w = lastF z1 j := fun w => fv_fin F.f6 w
        have y1 : ∀ w, fv .sub (rhF z0 z1 j j) (slF z0 z1 j) w = pf .sub (rhF z0 z1 j j) (slF z0 z1 j) := fun w => fv_fin F.f1 w
        have y2 : ∀ w, fv .add (ghF z0 z1 j j) (slF z0 z1 j) w = pf .add (ghF z0 z1 j j) (slF z0 z1 j) := fun w => fv_fin F.f2 w
        have y3 : ∀ w, fv .add (rlF z0 z1 j j) (slF z0 z1 j) w = pf .add (rlF z0 z1 j j) (slF z0 z1 j) := fun w => fv_fin F.f3 w
        have y4 : ∀ w, fv .sub (glF z0 z1 j j) (slF z0 z1 j) w = pf .sub (glF z0 z1 j j) (slF z0 z1 j) := fun w => fv_fin F.f4 w
        have y5 : ∀ w, fv .add hi (slF z0 z1 j) w = pf .add hi (slF z0 z1 j) := fun w => fv_fin F.f5 w
        have V : Hid (geF hi (pf .sub (rhF z0 z1 j j) (slF z0 z1 j)) = true ∧ leF hi (pf .add (ghF z0 z1 j j) (slF z0 z1 j)) = true ∧ leF lo (pf .add (rlF z0 z1 j j) (slF z0 z1 j)) = true ∧ geF lo (pf .sub (glF z0 z1 j j) (slF z0 z1 j)) = true ∧ leF lo (pf .add hi (slF z0 z1 j)) = true) := ⟨F.c1, F.c2, F.c3, F.c4, F.c5⟩
        have t1 := geF_yes F.c1
        have t2 := leF_yes F.c2
        have t3 := leF_yes F.c3
        have t4 := geF_yes F.c4
        have t5 := leF_yes F.c5
        have t6 : (FloatKind.f64.format.order (zabsF he) (lastF z1 j) == some .gt) = false := F.c6
        have t7 : (FloatKind.f64.format.order (zabsF le) (lastF z1 j) == some .gt) = false := F.c7
        have b3 : (0 : Int) ≤ (j : Int) - 1 := by omega
        have b4 : (j : Int) - 1 < (l1 : Int) := by omega
        clear F HF
        generalize pf .sub (rhF z0 z1 j j) (slF z0 z1 j) = X1 at *
        generalize pf .add (ghF z0 z1 j j) (slF z0 z1 j) = X2 at *
        generalize pf .add (rlF z0 z1 j j) (slF z0 z1 j) = X3 at *
        generalize pf .sub (glF z0 z1 j j) (slF z0 z1 j) = X4 at *
        generalize pf .add hi (slF z0 z1 j) = X5 at *
        generalize lastF z1 j = X6 at *
        generalize z1.getD (j - 1) 0 = bm at *
        generalize slF z0 z1 j = sl at *
        generalize rhF z0 z1 j j = rh at *
        generalize rlF z0 z1 j j = rl at *
        generalize ghF z0 z1 j j = gh at *
        generalize glF z0 z1 j j = gl at *
        go_wp2_with (go_at_call 14; refine (zabs14 _ _).mono ?_; rintro e w' ⟨rfl, rfl⟩)
        go_ret
        exact ⟨ret_b (fin5 V.out.1 V.out.2.1 V.out.2.2.1 V.out.2.2.2.1 V.out.2.2.2.2), below_drewN hb13 _⟩
end Go.Proofs.Qxb6605993a
