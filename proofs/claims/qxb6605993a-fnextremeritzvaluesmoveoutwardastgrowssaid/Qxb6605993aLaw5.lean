/- The walk of the law FnExtremeRitzValuesMoveOutwardAsTGrows. -/
import Derived.Test.Qxb6605993aLaw4
import Derived.Test.Qxb6605993aL5F
import Derived.Test.Qxb6605993aOneE
namespace Go.Proofs.Qxb6605993a
open Go.ChangeShapes Go.WideShapes Go.ChangeAt Go.RowKit
attribute [local go_sem] run_fadd run_fsub run_fmul run_fquo run_store_float unary_fneg

theorem bytes17 (a0 a1 : Option Addr) (l0 c0 l1 c1 : Nat) (w : World) (h : l0 + l1 ≤ 1048576) :
    Calls Try.prog 17 #[.slice a0 l0 c0, .slice a1 l1 c1] w fun e w' => e = .returned (.bool true) ∧ w' = w := by
  go_enter Try.func17, Try.ntmps17
  go_wp2
  all_goals (go_ret; exact ⟨rfl, rfl⟩)
theorem bytes17no (a0 a1 : Option Addr) (l0 c0 l1 c1 : Nat) (w : World) (h0 : l0 ≤ maxLen) (h1 : l1 ≤ maxLen) (h : 1048576 < l0 + l1) :
    Calls Try.prog 17 #[.slice a0 l0 c0, .slice a1 l1 c1] w fun e w' => e = .returned (.bool false) ∧ w' = w := by
  unfold maxLen at h0 h1
  go_enter Try.func17, Try.ntmps17
  go_wp2
  all_goals (go_ret; exact ⟨rfl, rfl⟩)

set_option maxRecDepth 100000 in
theorem law5_far (a0 a1 : Option Addr) (l0 c0 l1 c1 : Nat) (w : World) (h0 : l0 ≤ maxLen) (h1 : l1 ≤ maxLen) (h : 1048576 < l0 + l1) :
    Calls Try.prog 5 #[.slice a0 l0 c0, .slice a1 l1 c1] w fun e w' => e = .returned (.bool true) ∧ Below w.heap.size w w' := by
  go_enter Try.func5, Try.ntmps5
  go_wp2_with (go_at_call 17; refine (bytes17no _ _ _ _ _ _ _ h0 h1 h).mono ?_; rintro e w' ⟨rfl, rfl⟩)
  go_ret
  exact ⟨rfl, Below.refl _ _⟩

set_option maxRecDepth 100000 in
theorem law5_out (a0 a1 : Option Addr) (l0 c0 l1 c1 : Nat) (w : World) (h : l0 + l1 ≤ 1048576) (hbad : 65536 < l0 ∨ 65536 < l1 ∨ l0 < 1 ∨ l1 < l0) :
    Calls Try.prog 5 #[.slice a0 l0 c0, .slice a1 l1 c1] w fun e w' => e = .returned (.bool true) ∧ Below w.heap.size w w' := by
  by_cases h1 : 65536 < l0
  · go_enter Try.func5, Try.ntmps5
    go_wp2_with (go_at_call 17; refine (bytes17 _ _ _ _ _ _ _ h).mono ?_; rintro e w' ⟨rfl, rfl⟩)
    all_goals (go_ret; exact ⟨rfl, Below.refl _ _⟩)
  · by_cases h2 : 65536 < l1
    · go_enter Try.func5, Try.ntmps5
      go_wp2_with (go_at_call 17; refine (bytes17 _ _ _ _ _ _ _ h).mono ?_; rintro e w' ⟨rfl, rfl⟩)
      all_goals (go_ret; exact ⟨rfl, Below.refl _ _⟩)
    · by_cases h3 : l0 < 1
      · go_enter Try.func5, Try.ntmps5
        go_wp2_with (go_at_call 17; refine (bytes17 _ _ _ _ _ _ _ h).mono ?_; rintro e w' ⟨rfl, rfl⟩)
        all_goals (go_ret; exact ⟨rfl, Below.refl _ _⟩)
      · have h4 : l1 < l0 := by omega
        have h5 : (l1 : Int) < (l0 : Int) := by omega
        go_enter Try.func5, Try.ntmps5
        go_wp2_with (go_at_call 17; refine (bytes17 _ _ _ _ _ _ _ h).mono ?_; rintro e w' ⟨rfl, rfl⟩)
        all_goals (go_ret; exact ⟨rfl, Below.refl _ _⟩)

set_option maxRecDepth 100000 in
theorem law5_not (a0 a1 : Option Addr) (l0 c0 l1 c1 : Nat) (z0 z1 : List Nat) (w : World) (r0 : IsRowF w a0 l0 c0 z0) (r1 : IsRowF w a1 l1 c1 z1) (h0 : l0 ≤ 65536) (h1 : l1 ≤ 65536) (h2 : 1 ≤ l0) (h3 : l0 ≤ l1)
    (b0 b1 : Bool) (e0 : allWithin z0 4715268809856909312 l0 = b0) (e1 : allWithin z1 4715268809856909312 l0 = b1) (hbad : (b0 && b1) = false) :
    Calls Try.prog 5 #[.slice a0 l0 c0, .slice a1 l1 c1] w fun e w' => e = .returned (.bool true) ∧ Below w.heap.size w w' := by
  have h4 : ¬ (l1 : Int) < (l0 : Int) := by omega
  cases b0
  · go_enter Try.func5, Try.ntmps5
    go_wp2_with fail
    refine (bytes17 _ _ _ _ _ _ _ (by omega)).mono ?_
    rintro e w' ⟨rfl, hw⟩
    have hw' := hw.symm
    clear hw
    subst hw'
    go_wp2_with fail
    refine (allWithin10 a0 l0 c0 l0 _ z0 _ r0 (Nat.le_refl _) (by omega)).mono ?_
    rintro e w' ⟨rfl, hw⟩
    have hw' := hw.symm
    clear hw
    subst hw'
    rw [e0]
    go_wp2
    go_ret
    exact ⟨rfl, Below.refl _ _⟩
  · cases b1
    · go_enter Try.func5, Try.ntmps5
      go_wp2_with fail
      refine (bytes17 _ _ _ _ _ _ _ (by omega)).mono ?_
      rintro e w' ⟨rfl, hw⟩
      have hw' := hw.symm
      clear hw
      subst hw'
      go_wp2_with fail
      refine (allWithin10 a0 l0 c0 l0 _ z0 _ r0 (Nat.le_refl _) (by omega)).mono ?_
      rintro e w' ⟨rfl, hw⟩
      have hw' := hw.symm
      clear hw
      subst hw'
      rw [e0]
      go_wp2_with fail
      refine (allWithin10 a1 l1 c1 l0 _ z1 _ r1 (by omega) (by omega)).mono ?_
      rintro e w' ⟨rfl, hw⟩
      have hw' := hw.symm
      clear hw
      subst hw'
      rw [e1]
      go_wp2
      go_ret
      exact ⟨rfl, Below.refl _ _⟩
    · cases hbad

theorem fin3' {a b c X1 X2 X3 : Nat} (h1 : geF a X1 = true) (h2 : leF b X2 = true) (h3 : geF c X3 = true) : (geF a X1 && leF b X2 && geF c X3) = true := by
  rw [h1, h2, h3]; rfl
theorem fin3 {a b c X1 X2 X3 : Nat} (h1 : leF a X1 = true) (h2 : leF b X2 = true) (h3 : leF c X3 = true) : (leF a X1 && leF b X2 && leF c X3) = true := by
  rw [h1, h2, h3]; rfl

set_option maxRecDepth 100000 in
set_option maxHeartbeats 4000000 in
theorem law5_main (a0 a1 : Option Addr) (l0 c0 l1 c1 : Nat) (z0 z1 : List Nat) (w : World) (r0 : IsRowF w a0 l0 c0 z0) (r1 : IsRowF w a1 l1 c1 z1) (h0 : l0 ≤ 65536) (h1 : l1 ≤ 65536) (h2 : 1 ≤ l0) (h3 : l0 ≤ l1)
    (e0 : allWithin z0 4715268809856909312 l0 = true) (e1 : allWithin z1 4715268809856909312 l0 = true) (H : InpB z0 z1 l0)
    (hone : l0 = 1 → ∀ hi lo he le, Ritz z0 z1 l0 hi lo he le → Fine5a z0 z1 hi lo he)
    (htwo : 2 ≤ l0 → ∀ hi lo he le ph pl pe pe', Ritz z0 z1 l0 hi lo he le → Ritz z0 z1 (l0 - 1) ph pl pe pe' → Fine5 z0 z1 l0 hi lo ph pl) :
    Calls Try.prog 5 #[.slice a0 l0 c0, .slice a1 l1 c1] w fun e w' => e = .returned (.bool true) ∧ Below w.heap.size w w' := by
  have HL1 : Hid (l0 = 1 → ∀ hi lo he le, Ritz z0 z1 l0 hi lo he le → Fine5a z0 z1 hi lo he) := hone
  have HL2 : Hid (2 ≤ l0 → ∀ hi lo he le ph pl pe pe', Ritz z0 z1 l0 hi lo he le → Ritz z0 z1 (l0 - 1) ph pl pe pe' → Fine5 z0 z1 l0 hi lo ph pl) := htwo
  clear hone htwo
  have h4 : ¬ (l1 : Int) < (l0 : Int) := by omega
  have a64 := r0.w64
  have o64 := r1.w64
  go_enter Try.func5, Try.ntmps5
  go_wp2_with fail
  refine (bytes17 _ _ _ _ _ _ _ (by omega)).mono ?_
  rintro e w' ⟨rfl, hw⟩
  have hw' := hw.symm
  clear hw
  subst hw'
  go_wp2_with fail
  refine (allWithin10 a0 l0 c0 l0 _ z0 _ r0 (Nat.le_refl _) (by omega)).mono ?_
  rintro e w' ⟨rfl, hw⟩
  have hw' := hw.symm
  clear hw
  subst hw'
  rw [e0]
  go_wp2_with fail
  refine (allWithin10 a1 l1 c1 l0 _ z1 _ r1 (by omega) (by omega)).mono ?_
  rintro e w' ⟨rfl, hw⟩
  have hw' := hw.symm
  clear hw
  subst hw'
  rw [e1]
  clear e0 e1
  go_wp2_with fail
  have lz0 : z0.length = l0 := r0.len_eq
  have lz1 : z1.length = l1 := r1.len_eq
  refine (clone11r a0 l0 c0 z0 _ r0 (by omega) h2).mono ?_
  rintro e W1 ⟨A, rfl, hA1, hb1⟩
  have r1' := r1.below hb1
  go_wp2_with fail
  refine (clone11r a1 l1 c1 z1 _ r1' (by omega) (by omega)).mono ?_
  rintro e W2 ⟨O, rfl, hO2, hb2⟩
  have hA2 : FB W2 A z0 := hA1.below hb2 hA1.lt
  have hb12 : Below w.heap.size w W2 := hb1.trans (hb2.mono hb1.size)
  clear hb1 hb2 hA1 r1' r0 r1
  go_wp2_with fail
  refine (zzritz12 A O l0 _ l1 _ z0 z1 W2 hA2 hO2 (by omega) h3 (Nat.le_refl _) (by omega) (by omega) H o64).mono ?_
  rintro e W3 ⟨hi, lo, he, le, rfl, hR, hb3⟩
  have hA3 : FB W3 A z0 := hA2.below hb3 hA2.lt
  have hO3 : FB W3 O z1 := hO2.below hb3 hO2.lt
  have hb13 : Below w.heap.size w W3 := hb12.trans (hb3.mono hb12.size)
  have HR : Hid (Ritz z0 z1 l0 hi lo he le) := hR
  clear hR hb3 hA2 hO2 hb12
  go_wp2_with fail
  refine (rowsum13 A O l0 _ l1 _ z0 z1 W3 hA3 hO3 (by omega) h3 (by omega) (by omega) H a64 o64).mono ?_
  rintro e W4 ⟨n, rfl, rfl⟩
  obtain ⟨s1, s2, _⟩ := slack_facts H a64 o64
  have es1 : ∀ w, fv .add 4607182418800017408 (grow z0 z1 l0 l0) w = one1 z0 z1 l0 := fun w => fv_fin s1 w
  have es2 : ∀ w, fv .mul 4427486594234968593 (one1 z0 z1 l0) w = slF z0 z1 l0 := fun w => fv_fin s2 w
  have k0 := hA3.cell (show 0 < z0.length by omega)
  have kb := hO3.cell (show 0 < z1.length by omega)
  have g0 : (0 : Int) < (l0 : Int) := by omega
  have g1 : (0 : Int) < (l1 : Int) := by omega
  obtain ⟨x0, hx0⟩ : ∃ v, v = z0.getD 0 0 := ⟨_, rfl⟩
  rw [← hx0] at k0
  have HX0 : Hid (x0 = z0.getD 0 0) := hx0
  clear s1 s2 hx0
  by_cases hm : l0 = 1
  · as_aux_lemma =>
      have F := HL1.out hm hi lo he le HR.out
      subst hm
      obtain ⟨bb, hbb⟩ : ∃ v, v = z1.getD 0 0 := ⟨_, rfl⟩
      obtain ⟨F1, F2, F3, F4, C1, C2, C3⟩ := F
      rw [← HX0.out] at F1 F2 C1 C2
      rw [← hbb] at F3 F4 C3 kb
      have y1 : ∀ w, fv .sub hi x0 w = pf .sub hi x0 := fun w => fv_fin F1 w
      have y2 : ∀ w, fv .sub lo x0 w = pf .sub lo x0 := fun w => fv_fin F2 w
      have y3 : ∀ w, fv .sub (zabsF he) (zabsF bb) w = pf .sub (zabsF he) (zabsF bb) := fun w => fv_fin F3 w
      have y4 : ∀ w, fv .mul 4427486594234968593 (zabsF bb) w = pf .mul 4427486594234968593 (zabsF bb) := fun w => fv_fin F4 w
      have t1 := leF_yes C1
      have t2 := leF_yes C2
      have t3 := leF_yes C3
      have V : Hid (leF (zabsF (pf .sub hi x0)) (slF z0 z1 1) = true ∧ leF (zabsF (pf .sub lo x0)) (slF z0 z1 1) = true ∧ leF (zabsF (pf .sub (zabsF he) (zabsF bb))) (pf .mul 4427486594234968593 (zabsF bb)) = true) := ⟨C1, C2, C3⟩
      clear F1 F2 F3 F4 C1 C2 C3 hbb HX0
      generalize pf .sub hi x0 = P1 at *
      generalize pf .sub lo x0 = P2 at *
      generalize pf .sub (zabsF he) (zabsF bb) = P3 at *
      generalize pf .mul 4427486594234968593 (zabsF bb) = P4 at *
      generalize slF z0 z1 1 = sl at *
      generalize one1 z0 z1 1 = on at *
      generalize grow z0 z1 1 1 = gr at *
      go_wp2_with (go_at_call 14; refine (zabs14 _ _).mono ?_; rintro e w' ⟨rfl, rfl⟩)
      go_ret
      exact ⟨ret_b (fin3 V.out.1 V.out.2.1 V.out.2.2), below_drewN hb13 _⟩
  · have hm' : ¬ (l0 : Int) = 1 := by omega
    have hk : ((l0 : Int) - 1) = ((l0 - 1 : Nat) : Int) := by omega
    have b1 : (0 : Int) ≤ ((l0 - 1 : Nat) : Int) := by omega
    have b2 : ((l0 - 1 : Nat) : Int) ≤ (l0 : Int) := by omega
    have b3 : ((l0 - 1 : Nat) : Int) ≤ (l1 : Int) := by omega
    have hwr : IntKind.i64.wrap ((l0 - 1 : Nat) : Int) = ((l0 - 1 : Nat) : Int) := wrap64 _ (by omega)
    go_wp2
    generalize hW4 : W3.drewN (n + dn BinOp.add 4607182418800017408 (grow z0 z1 l0 l0) + dn BinOp.mul 4427486594234968593 (one1 z0 z1 l0)) = W4
    have hA4 : FB W4 A z0 := by rw [← hW4]; exact hA3.drewN _
    have hO4 : FB W4 O z1 := by rw [← hW4]; exact hO3.drewN _
    have hb14 : Below w.heap.size w W4 := by rw [← hW4]; exact below_drewN hb13 _
    clear hW4 hA3 hO3 hb13 k0 kb es1 es2
    have Hp : InpB z0 z1 (l0 - 1) := H.pre (by omega) (by omega)
    go_cut [12, 13, 14, 15] (fun s12 s13 _ _ wc => ∃ ph pl pe pe', s12 = .float .f64 ph ∧ s13 = .float .f64 pl ∧ Ritz z0 z1 (l0 - 1) ph pl pe pe' ∧ FB wc A z0 ∧ FB wc O z1 ∧ Below w.heap.size w wc)
    case first =>
      go_region_with (
        (go_at_call 12
         refine (zzritz12 A O (l0 - 1) _ (l0 - 1) _ z0 z1 _ hA4.drew hO4.drew (by omega) (Nat.le_refl _) (by omega) (by omega) (by omega) Hp o64).mono ?_
         rintro e w' ⟨ph, pl, pe, pe', rfl, hP, hbp⟩
         have HP : Hid (Ritz z0 z1 (l0 - 1) ph pl pe pe') := hP
         clear hP))
      all_goals go_wp2
      all_goals go_simp
      all_goals go_meet
      all_goals (case rel => exact ⟨ph, pl, pe, pe', rfl, rfl, HP.out, hA4.drew.below hbp hA4.drew.lt, hO4.drew.below hbp hO4.drew.lt, hb14.drew.trans (hbp.mono hb14.drew.size)⟩)
    case rest =>
      obtain ⟨ph, pl, pe, pe', rfl, rfl, hP, hA5, hO5, hb15⟩ := hcut
      have F := HL2.out (by omega) hi lo he le ph pl pe pe' HR.out hP
      have HF : Hid (Fine5 z0 z1 l0 hi lo ph pl) := F
      clear F hP HR HL1 HL2 hA4 hO4 hb14 hk b1 b2 b3 hwr
      have k0 := hA5.cell (show 0 < z0.length by omega)
      rw [← HX0.out] at k0
      go_wp2
      clear k0
      go_loop [16, 17, 18] (fun s16 s17 s18 => ∃ j : Nat, j + 1 ≤ l0 ∧ s18 = .int .i64 ((j : Int) + 1) ∧ s16 = .float .f64 (amxF z0 j) ∧ s17 = .float .f64 (amnF z0 j)) (fun _ _ s18 => l0 - (intOf s18).toNat)
      case atStart => exact ⟨0, h2, rfl, by rw [HX0.out]; rfl, by rw [HX0.out]; rfl⟩
      case round =>
        obtain ⟨j, hj, rfl, rfl, rfl⟩ := hrel
        by_cases hlt : j + 1 < l0
        · as_aux_lemma =>
            have c1 := hA5.cell (show j + 1 < z0.length by omega)
            have d0 : (j : Int) + 1 < (l0 : Int) := by omega
            have HM : Hid (zmaxF (amxF z0 j) (z0.getD (j + 1) 0) = amxF z0 (j + 1)) := rfl
            have HN : Hid (zminF (amnF z0 j) (z0.getD (j + 1) 0) = amnF z0 (j + 1)) := rfl
            generalize z0.getD (j + 1) 0 = a at *
            generalize amxF z0 j = mx at *
            generalize amnF z0 j = mn at *
            go_wp2_with (first
              | (go_at_call 15; refine (zmax15 _ _ _).mono ?_; rintro e w' ⟨rfl, rfl⟩)
              | (go_at_call 16; refine (zmin16 _ _ _).mono ?_; rintro e w' ⟨rfl, rfl⟩))
            go_round
            case rel => exact ⟨j + 1, by omega, by go_num, by rw [HM.out], by rw [HN.out]⟩
            case measure => simp [intOf]; omega
        · have d0 : ¬ (j : Int) + 1 < (l0 : Int) := by omega
          have ej : l0 - 1 = j := by omega
          have F := HF.out
          have eS : ∀ w, fv .sub (amxF z0 j) (amnF z0 j) w = sprF z0 z1 l0 0 := by
            have := F.g0
            rw [ej] at this
            intro w
            rw [fv_fin this w]
            show _ = pf .sub (amxF z0 (l0 - 1)) (amnF z0 (l0 - 1))
            rw [ej]
          have HEJ : Hid (l0 - 1 = j) := ej
          clear ej F
          generalize amxF z0 j = mx at *
          generalize amnF z0 j = mn at *
          go_wp2
          clear eS d0
          go_loopw [19, 20] (fun s19 s20 wr => ∃ i n : Nat, i + 1 ≤ l0 ∧ s20 = .int .i64 (i : Int) ∧ s19 = .float .f64 (sprF z0 z1 l0 i) ∧ wr = wc.drewN n) (fun _ s20 _ => l0 - (intOf s20).toNat)
          case atStart => exact ⟨0, _, h2, rfl, rfl, rfl⟩
          case round =>
            obtain ⟨i, n', hi', rfl, rfl, rfl⟩ := hrel
            by_cases hil : i + 1 < l0
            · as_aux_lemma =>
                have c1 := hO5.cell (show i < z1.length by omega)
                have d0 : (i : Int) + 1 < (l0 : Int) := by omega
                have d1 : (i : Int) < (l1 : Int) := by omega
                have eM : ∀ w, fv .mul 4611686018427387904 (zabsF (z1.getD i 0)) w = pf .mul 4611686018427387904 (zabsF (z1.getD i 0)) := fun w => fv_fin (HF.out.g1 i hil) w
                have HM : Hid (zmaxF (sprF z0 z1 l0 i) (pf .mul 4611686018427387904 (zabsF (z1.getD i 0))) = sprF z0 z1 l0 (i + 1)) := rfl
                generalize pf .mul 4611686018427387904 (zabsF (z1.getD i 0)) = U at *
                generalize z1.getD i 0 = o at *
                generalize sprF z0 z1 l0 i = sp at *
                go_wp2_with (first
                  | (go_at_call 14; refine (zabs14 _ _).mono ?_; rintro e w' ⟨rfl, rfl⟩)
                  | (go_at_call 15; refine (zmax15 _ _ _).mono ?_; rintro e w' ⟨rfl, rfl⟩))
                go_roundw
                case rel => exact ⟨i + 1, _, by omega, by go_num, by rw [HM.out], rfl⟩
                case measure => simp [intOf]; omega
            · as_aux_lemma =>
                have d0 : ¬ (i : Int) + 1 < (l0 : Int) := by omega
                have ei : l0 - 1 = i := by omega
                have F := HF.out
                obtain ⟨_, _, G2, G3, F1, F2, F3, F4, C1, C2, C3⟩ := F
                rw [ei] at F4 C3
                have y2 : ∀ w, fv .mul 4611686018427387904 (slF z0 z1 l0) w = pf .mul 4611686018427387904 (slF z0 z1 l0) := fun w => fv_fin G2 w
                have y3 : ∀ w, fv .mul 4613937818241073152 (slF z0 z1 l0) w = pf .mul 4613937818241073152 (slF z0 z1 l0) := fun w => fv_fin G3 w
                have y4 : ∀ w, fv .sub ph (pf .mul 4611686018427387904 (slF z0 z1 l0)) w = pf .sub ph (pf .mul 4611686018427387904 (slF z0 z1 l0)) := fun w => fv_fin F1 w
                have y5 : ∀ w, fv .add pl (pf .mul 4611686018427387904 (slF z0 z1 l0)) w = pf .add pl (pf .mul 4611686018427387904 (slF z0 z1 l0)) := fun w => fv_fin F2 w
                have y6 : ∀ w, fv .sub hi lo w = pf .sub hi lo := fun w => fv_fin F3 w
                have y7 : ∀ w, fv .sub (sprF z0 z1 l0 i) (pf .mul 4613937818241073152 (slF z0 z1 l0)) w = pf .sub (sprF z0 z1 l0 i) (pf .mul 4613937818241073152 (slF z0 z1 l0)) := fun w => fv_fin F4 w
                have t1 := geF_yes C1
                have t2 := leF_yes C2
                have t3 := geF_yes C3
                have V : Hid (geF hi (pf .sub ph (pf .mul 4611686018427387904 (slF z0 z1 l0))) = true ∧ leF lo (pf .add pl (pf .mul 4611686018427387904 (slF z0 z1 l0))) = true ∧ geF (pf .sub hi lo) (pf .sub (sprF z0 z1 l0 i) (pf .mul 4613937818241073152 (slF z0 z1 l0))) = true) := ⟨C1, C2, C3⟩
                clear ei G2 G3 F1 F2 F3 F4 C1 C2 C3 HF HEJ
                generalize pf .sub (sprF z0 z1 l0 i) (pf .mul 4613937818241073152 (slF z0 z1 l0)) = X7 at *
                generalize pf .sub hi lo = X6 at *
                generalize pf .add pl (pf .mul 4611686018427387904 (slF z0 z1 l0)) = X5 at *
                generalize pf .sub ph (pf .mul 4611686018427387904 (slF z0 z1 l0)) = X4 at *
                generalize pf .mul 4613937818241073152 (slF z0 z1 l0) = X3 at *
                generalize pf .mul 4611686018427387904 (slF z0 z1 l0) = X2 at *
                generalize slF z0 z1 l0 = sl at *
                generalize sprF z0 z1 l0 i = sp at *
                go_wp2
                go_ret
                exact ⟨ret_b (fin3' V.out.1 V.out.2.1 V.out.2.2), below_drewN hb15 _⟩
end Go.Proofs.Qxb6605993a
