/- The walk of the law FnTridiagonalEigenvectorOfDiagonalPicksItsCoordinate, over the plain law. -/
import Derived.Test.Qxb6605993aLaw6
namespace Go.Proofs.Qxb6605993a
open Go.ChangeShapes Go.WideShapes Go.ChangeAt Go.RowKit
attribute [local go_sem] run_fadd run_fsub run_fmul run_fquo run_store_float unary_fneg

theorem bytes24 (a0 a1 : Option Addr) (l0 c0 l1 c1 th : Nat) (w : World) (h : l0 + l1 ≤ 1048576) :
    Calls Try.prog 24 #[.slice a0 l0 c0, .slice a1 l1 c1, .float .f64 th] w fun e w' => e = .returned (.bool true) ∧ w' = w := by
  go_enter Try.func24, Try.ntmps24
  go_wp2
  all_goals (go_ret; exact ⟨rfl, rfl⟩)
theorem bytes24no (a0 a1 : Option Addr) (l0 c0 l1 c1 th : Nat) (w : World) (h0 : l0 ≤ maxLen) (h1 : l1 ≤ maxLen) (h : 1048576 < l0 + l1) :
    Calls Try.prog 24 #[.slice a0 l0 c0, .slice a1 l1 c1, .float .f64 th] w fun e w' => e = .returned (.bool false) ∧ w' = w := by
  unfold maxLen at h0 h1
  go_enter Try.func24, Try.ntmps24
  go_wp2
  all_goals (go_ret; exact ⟨rfl, rfl⟩)

theorem law7_far (a0 a1 : Option Addr) (l0 c0 l1 c1 th : Nat) (w : World) (h0 : l0 ≤ maxLen) (h1 : l1 ≤ maxLen) (h : 1048576 < l0 + l1) :
    Calls Try.prog 7 #[.slice a0 l0 c0, .slice a1 l1 c1, .float .f64 th] w fun e w' => e = .returned (.bool true) ∧ Below w.heap.size w w' := by
  go_enter Try.func7, Try.ntmps7
  go_wp2_with (go_at_call 24; refine (bytes24no _ _ _ _ _ _ _ _ h0 h1 h).mono ?_; rintro e w' ⟨rfl, rfl⟩)
  go_ret
  exact ⟨rfl, Below.refl _ _⟩

theorem law7_out (a0 a1 : Option Addr) (l0 c0 l1 c1 th : Nat) (w : World) (h : l0 + l1 ≤ 1048576) (hbad : 4096 < l0 ∨ 65536 < l1 ∨ l0 < 1 ∨ l1 + 1 < l0) :
    Calls Try.prog 7 #[.slice a0 l0 c0, .slice a1 l1 c1, .float .f64 th] w fun e w' => e = .returned (.bool true) ∧ Below w.heap.size w w' := by
  by_cases h1 : 4096 < l0
  · go_enter Try.func7, Try.ntmps7
    go_wp2_with (go_at_call 24; refine (bytes24 _ _ _ _ _ _ _ _ h).mono ?_; rintro e w' ⟨rfl, rfl⟩)
    all_goals (go_ret; exact ⟨rfl, Below.refl _ _⟩)
  · by_cases h2 : 65536 < l1
    · go_enter Try.func7, Try.ntmps7
      go_wp2_with (go_at_call 24; refine (bytes24 _ _ _ _ _ _ _ _ h).mono ?_; rintro e w' ⟨rfl, rfl⟩)
      all_goals (go_ret; exact ⟨rfl, Below.refl _ _⟩)
    · by_cases h3 : l0 < 1
      · go_enter Try.func7, Try.ntmps7
        go_wp2_with (go_at_call 24; refine (bytes24 _ _ _ _ _ _ _ _ h).mono ?_; rintro e w' ⟨rfl, rfl⟩)
        all_goals (go_ret; exact ⟨rfl, Below.refl _ _⟩)
      · have h4 : l1 + 1 < l0 := by omega
        have h5 : (l1 : Int) < (l0 : Int) - 1 := by omega
        go_enter Try.func7, Try.ntmps7
        go_wp2_with (go_at_call 24; refine (bytes24 _ _ _ _ _ _ _ _ h).mono ?_; rintro e w' ⟨rfl, rfl⟩)
        all_goals (go_ret; exact ⟨rfl, Below.refl _ _⟩)

theorem law7_not (a0 a1 : Option Addr) (l0 c0 l1 c1 th : Nat) (z0 z1 : List Nat) (w : World) (r0 : IsRowF w a0 l0 c0 z0) (r1 : IsRowF w a1 l1 c1 z1) (h0 : l0 ≤ 4096) (h1 : l1 ≤ 65536) (h2 : 1 ≤ l0) (h3 : l0 ≤ l1 + 1)
    (b0 b1 b2 : Bool) (e0 : allWithin z0 4715268809856909312 l0 = b0) (e1 : allWithin z1 4715268809856909312 (l0 - 1) = b1) (e2 : withinF th 4724276009111650304 = b2) (hbad : (b0 && b1 && b2) = false) :
    Calls Try.prog 7 #[.slice a0 l0 c0, .slice a1 l1 c1, .float .f64 th] w fun e w' => e = .returned (.bool true) ∧ Below w.heap.size w w' := by
  have hk : ((l0 : Int) - 1) = ((l0 - 1 : Nat) : Int) := by omega
  have HK : Hid (((l0 : Int) - 1) = ((l0 - 1 : Nat) : Int)) := hk
  clear hk
  have h4 : ¬ (l1 : Int) < (l0 : Int) - 1 := by omega
  cases b0
  · go_enter Try.func7, Try.ntmps7
    go_wp2_with fail
    refine (bytes24 _ _ _ _ _ _ _ _ (by omega)).mono ?_
    rintro e w' ⟨rfl, hw⟩
    have hw' := hw.symm
    clear hw
    subst hw'
    go_wp2_with fail
    refine (allWithin10 a0 l0 c0 l0 _ z0 _ r0 (Nat.le_refl _) (by omega)).mono ?_
    rintro e w' ⟨rfl, hw⟩
    have hw' := hw.symm
    clear hw
    subst hw'
    rw [e0]
    go_wp2
    go_ret
    exact ⟨rfl, Below.refl _ _⟩
  · cases b1
    · go_enter Try.func7, Try.ntmps7
      go_wp2_with fail
      refine (bytes24 _ _ _ _ _ _ _ _ (by omega)).mono ?_
      rintro e w' ⟨rfl, hw⟩
      have hw' := hw.symm
      clear hw
      subst hw'
      go_wp2_with fail
      refine (allWithin10 a0 l0 c0 l0 _ z0 _ r0 (Nat.le_refl _) (by omega)).mono ?_
      rintro e w' ⟨rfl, hw⟩
      have hw' := hw.symm
      clear hw
      subst hw'
      rw [e0]
      go_wp2_with fail
      rw [HK.out]
      refine (allWithin10 a1 l1 c1 (l0 - 1) _ z1 _ r1 (by omega) (by omega)).mono ?_
      rintro e w' ⟨rfl, hw⟩
      have hw' := hw.symm
      clear hw
      subst hw'
      rw [e1]
      go_wp2
      go_ret
      exact ⟨rfl, Below.refl _ _⟩
    · cases b2
      · go_enter Try.func7, Try.ntmps7
        go_wp2_with fail
        refine (bytes24 _ _ _ _ _ _ _ _ (by omega)).mono ?_
        rintro e w' ⟨rfl, hw⟩
        have hw' := hw.symm
        clear hw
        subst hw'
        go_wp2_with fail
        refine (allWithin10 a0 l0 c0 l0 _ z0 _ r0 (Nat.le_refl _) (by omega)).mono ?_
        rintro e w' ⟨rfl, hw⟩
        have hw' := hw.symm
        clear hw
        subst hw'
        rw [e0]
        go_wp2_with fail
        rw [HK.out]
        refine (allWithin10 a1 l1 c1 (l0 - 1) _ z1 _ r1 (by omega) (by omega)).mono ?_
        rintro e w' ⟨rfl, hw⟩
        have hw' := hw.symm
        clear hw
        subst hw'
        rw [e1]
        go_wp2_with fail
        refine (within19 th _ _).mono ?_
        rintro e w' ⟨rfl, hw⟩
        have hw' := hw.symm
        clear hw
        subst hw'
        rw [e2]
        go_wp2
        go_ret
        exact ⟨rfl, Below.refl _ _⟩
      · cases hbad

end Go.Proofs.Qxb6605993a
