/- The walk of the law FnTridiagonalEigenvectorIsUnitOfRightLength, over the plain law. -/
import Derived.Test.Qxb6605993aEig
import Derived.Test.Qxb6605993aUnit
namespace Go.Proofs.Qxb6605993a
open Go.ChangeShapes Go.WideShapes Go.ChangeAt Go.RowKit

theorem zzeig20 (A O m ca lo co th : Nat) (po : Option Addr) (al of : List Nat) (w : World) (hA : FB w A al)
    (hO : 1 < m → po = some ⟨O, 0, none⟩ ∧ FB w O of ∧ m ≤ lo + 1 ∧ lo ≤ of.length)
    (hm : 1 ≤ m) (hmx : m ≤ 1048576) (la : m ≤ al.length) (hth : Fl.Fin th) (th64 : th < 18446744073709551616) (ho : ∀ j, j + 1 < m → Fl.Fin (of.getD j 0)) (o64 : W64 of) :
    Calls Try.prog 20 #[.slice (some ⟨A, 0, none⟩) m ca, .slice po lo co, .float .f64 th] w fun e w' =>
      ∃ X xs, e = .returned (.slice (some ⟨X, 0, none⟩) m m) ∧ w.heap.size ≤ X ∧ FB w' X xs ∧ xs.map cn = eigF al of th m ∧ W64 xs ∧ Below w.heap.size w w' := by
  have HO : Hid (1 < m → po = some ⟨O, 0, none⟩ ∧ FB w O of ∧ m ≤ lo + 1 ∧ lo ≤ of.length) := hO
  clear hO
  go_enter Try.func20, Try.ntmps20
  go_wp2_with fail
  refine (eig27 A O m ca lo co th po al of w hA HO.out hm hmx la hth th64 ho o64).mono ?_
  rintro e w' ⟨X, xs, rfl, h1, h2, h3, h4, h5⟩
  have H3 : Hid (xs.map cn = eigF al of th m) := h3
  clear h3
  go_wp2
  go_ret
  first
    | exact ⟨X, xs, rfl, h1, h2, H3.out, h4, h5⟩
    | exact ⟨X, rfl, h1, xs, h2, H3.out, h4, h5⟩

theorem bytes18 (a0 a1 : Option Addr) (l0 c0 l1 c1 th : Nat) (w : World) (h : l0 + l1 ≤ 1048576) :
    Calls Try.prog 18 #[.slice a0 l0 c0, .slice a1 l1 c1, .float .f64 th] w fun e w' => e = .returned (.bool true) ∧ w' = w := by
  go_enter Try.func18, Try.ntmps18
  go_wp2
  all_goals (go_ret; exact ⟨rfl, rfl⟩)
theorem bytes18no (a0 a1 : Option Addr) (l0 c0 l1 c1 th : Nat) (w : World) (h0 : l0 ≤ maxLen) (h1 : l1 ≤ maxLen) (h : 1048576 < l0 + l1) :
    Calls Try.prog 18 #[.slice a0 l0 c0, .slice a1 l1 c1, .float .f64 th] w fun e w' => e = .returned (.bool false) ∧ w' = w := by
  unfold maxLen at h0 h1
  go_enter Try.func18, Try.ntmps18
  go_wp2
  all_goals (go_ret; exact ⟨rfl, rfl⟩)

theorem law6_far (a0 a1 : Option Addr) (l0 c0 l1 c1 th : Nat) (w : World) (h0 : l0 ≤ maxLen) (h1 : l1 ≤ maxLen) (h : 1048576 < l0 + l1) :
    Calls Try.prog 6 #[.slice a0 l0 c0, .slice a1 l1 c1, .float .f64 th] w fun e w' => e = .returned (.bool true) ∧ Below w.heap.size w w' := by
  go_enter Try.func6, Try.ntmps6
  go_wp2_with (go_at_call 18; refine (bytes18no _ _ _ _ _ _ _ _ h0 h1 h).mono ?_; rintro e w' ⟨rfl, rfl⟩)
  go_ret
  exact ⟨rfl, Below.refl _ _⟩

theorem law6_out (a0 a1 : Option Addr) (l0 c0 l1 c1 th : Nat) (w : World) (h : l0 + l1 ≤ 1048576) (hbad : 65536 < l0 ∨ 65536 < l1 ∨ l0 < 1 ∨ l1 + 1 < l0) :
    Calls Try.prog 6 #[.slice a0 l0 c0, .slice a1 l1 c1, .float .f64 th] w fun e w' => e = .returned (.bool true) ∧ Below w.heap.size w w' := by
  by_cases h1 : 65536 < l0
  · go_enter Try.func6, Try.ntmps6
    go_wp2_with (go_at_call 18; refine (bytes18 _ _ _ _ _ _ _ _ h).mono ?_; rintro e w' ⟨rfl, rfl⟩)
    all_goals (go_ret; exact ⟨rfl, Below.refl _ _⟩)
  · by_cases h2 : 65536 < l1
    · go_enter Try.func6, Try.ntmps6
      go_wp2_with (go_at_call 18; refine (bytes18 _ _ _ _ _ _ _ _ h).mono ?_; rintro e w' ⟨rfl, rfl⟩)
      all_goals (go_ret; exact ⟨rfl, Below.refl _ _⟩)
    · by_cases h3 : l0 < 1
      · go_enter Try.func6, Try.ntmps6
        go_wp2_with (go_at_call 18; refine (bytes18 _ _ _ _ _ _ _ _ h).mono ?_; rintro e w' ⟨rfl, rfl⟩)
        all_goals (go_ret; exact ⟨rfl, Below.refl _ _⟩)
      · have h4 : l1 + 1 < l0 := by omega
        have h5 : (l1 : Int) < (l0 : Int) - 1 := by omega
        go_enter Try.func6, Try.ntmps6
        go_wp2_with (go_at_call 18; refine (bytes18 _ _ _ _ _ _ _ _ h).mono ?_; rintro e w' ⟨rfl, rfl⟩)
        all_goals (go_ret; exact ⟨rfl, Below.refl _ _⟩)

theorem law6_not (a0 a1 : Option Addr) (l0 c0 l1 c1 th : Nat) (z0 z1 : List Nat) (w : World) (r0 : IsRowF w a0 l0 c0 z0) (r1 : IsRowF w a1 l1 c1 z1) (h0 : l0 ≤ 65536) (h1 : l1 ≤ 65536) (h2 : 1 ≤ l0) (h3 : l0 ≤ l1 + 1)
    (b0 b1 b2 : Bool) (e0 : allWithin z0 4715268809856909312 l0 = b0) (e1 : allWithin z1 4715268809856909312 (l0 - 1) = b1) (e2 : withinF th 4724276009111650304 = b2) (hbad : (b0 && b1 && b2) = false) :
    Calls Try.prog 6 #[.slice a0 l0 c0, .slice a1 l1 c1, .float .f64 th] w fun e w' => e = .returned (.bool true) ∧ Below w.heap.size w w' := by
  have hk : ((l0 : Int) - 1) = ((l0 - 1 : Nat) : Int) := by omega
  have HK : Hid (((l0 : Int) - 1) = ((l0 - 1 : Nat) : Int)) := hk
  clear hk
  have h4 : ¬ (l1 : Int) < (l0 : Int) - 1 := by omega
  cases b0
  · go_enter Try.func6, Try.ntmps6
    go_wp2_with fail
    refine (bytes18 _ _ _ _ _ _ _ _ (by omega)).mono ?_
    rintro e w' ⟨rfl, hw⟩
    have hw' := hw.symm
    clear hw
    subst hw'
    go_wp2_with fail
    refine (allWithin10 a0 l0 c0 l0 _ z0 _ r0 (Nat.le_refl _) (by omega)).mono ?_
    rintro e w' ⟨rfl, hw⟩
    have hw' := hw.symm
    clear hw
    subst hw'
    rw [e0]
    go_wp2
    go_ret
    exact ⟨rfl, Below.refl _ _⟩
  · cases b1
    · go_enter Try.func6, Try.ntmps6
      go_wp2_with fail
      refine (bytes18 _ _ _ _ _ _ _ _ (by omega)).mono ?_
      rintro e w' ⟨rfl, hw⟩
      have hw' := hw.symm
      clear hw
      subst hw'
      go_wp2_with fail
      refine (allWithin10 a0 l0 c0 l0 _ z0 _ r0 (Nat.le_refl _) (by omega)).mono ?_
      rintro e w' ⟨rfl, hw⟩
      have hw' := hw.symm
      clear hw
      subst hw'
      rw [e0]
      go_wp2_with fail
      rw [HK.out]
      refine (allWithin10 a1 l1 c1 (l0 - 1) _ z1 _ r1 (by omega) (by omega)).mono ?_
      rintro e w' ⟨rfl, hw⟩
      have hw' := hw.symm
      clear hw
      subst hw'
      rw [e1]
      go_wp2
      go_ret
      exact ⟨rfl, Below.refl _ _⟩
    · cases b2
      · go_enter Try.func6, Try.ntmps6
        go_wp2_with fail
        refine (bytes18 _ _ _ _ _ _ _ _ (by omega)).mono ?_
        rintro e w' ⟨rfl, hw⟩
        have hw' := hw.symm
        clear hw
        subst hw'
        go_wp2_with fail
        refine (allWithin10 a0 l0 c0 l0 _ z0 _ r0 (Nat.le_refl _) (by omega)).mono ?_
        rintro e w' ⟨rfl, hw⟩
        have hw' := hw.symm
        clear hw
        subst hw'
        rw [e0]
        go_wp2_with fail
        rw [HK.out]
        refine (allWithin10 a1 l1 c1 (l0 - 1) _ z1 _ r1 (by omega) (by omega)).mono ?_
        rintro e w' ⟨rfl, hw⟩
        have hw' := hw.symm
        clear hw
        subst hw'
        rw [e1]
        go_wp2_with fail
        refine (within19 th _ _).mono ?_
        rintro e w' ⟨rfl, hw⟩
        have hw' := hw.symm
        clear hw
        subst hw'
        rw [e2]
        go_wp2
        go_ret
        exact ⟨rfl, Below.refl _ _⟩
      · cases hbad

/-- the words that pass zzWithin(2^24) -/
theorem OwnF.mk {B : Nat} {w' : World} {a' : Option Addr} {len : Nat} {zs : List Nat} (h : OwnF B w' a' len zs) (hl : 1 ≤ len) : ∃ X, a' = some ⟨X, 0, none⟩ ∧ B ≤ X ∧ FB w' X zs := by
  rcases h.2 with ⟨_, h0⟩ | h
  · omega
  · exact h

set_option maxHeartbeats 1000000 in
theorem law6_main (a0 a1 : Option Addr) (l0 c0 l1 c1 th : Nat) (z0 z1 : List Nat) (w : World) (r0 : IsRowF w a0 l0 c0 z0) (r1 : IsRowF w a1 l1 c1 z1) (h0 : l0 ≤ 65536) (h1 : l1 ≤ 65536) (h2 : 1 ≤ l0) (h3 : l0 ≤ l1 + 1)
    (e0 : allWithin z0 4715268809856909312 l0 = true) (e1 : allWithin z1 4715268809856909312 (l0 - 1) = true) (e2 : withinF th 4724276009111650304 = true)
    (hth : Fl.Fin th) (th64 : th < 18446744073709551616) (ho : ∀ j, j + 1 < l0 → Fl.Fin (z1.getD j 0))
    (hlaw : isUnitF (eigF z0 z1 th l0) l0 = true ∨ anyNaN (eigF z0 z1 th l0) l0 = true ∨ allZero (eigF z0 z1 th l0) l0 = true) :
    Calls Try.prog 6 #[.slice a0 l0 c0, .slice a1 l1 c1, .float .f64 th] w fun e w' => e = .returned (.bool true) ∧ Below w.heap.size w w' := by
  have hk : ((l0 : Int) - 1) = ((l0 - 1 : Nat) : Int) := by omega
  have HK : Hid (((l0 : Int) - 1) = ((l0 - 1 : Nat) : Int)) := hk
  have HL : Hid (isUnitF (eigF z0 z1 th l0) l0 = true ∨ anyNaN (eigF z0 z1 th l0) l0 = true ∨ allZero (eigF z0 z1 th l0) l0 = true) := hlaw
  clear hk hlaw
  have h4 : ¬ (l1 : Int) < (l0 : Int) - 1 := by omega
  have o64 := r1.w64
  go_enter Try.func6, Try.ntmps6
  go_wp2_with fail
  refine (bytes18 _ _ _ _ _ _ _ _ (by omega)).mono ?_
  rintro e w' ⟨rfl, hw⟩
  have hw' := hw.symm
  clear hw
  subst hw'
  go_wp2_with fail
  refine (allWithin10 a0 l0 c0 l0 _ z0 _ r0 (Nat.le_refl _) (by omega)).mono ?_
  rintro e w' ⟨rfl, hw⟩
  have hw' := hw.symm
  clear hw
  subst hw'
  rw [e0]
  go_wp2_with fail
  rw [HK.out]
  refine (allWithin10 a1 l1 c1 (l0 - 1) _ z1 _ r1 (by omega) (by omega)).mono ?_
  rintro e w' ⟨rfl, hw⟩
  have hw' := hw.symm
  clear hw
  subst hw'
  rw [e1]
  go_wp2_with fail
  refine (within19 th _ _).mono ?_
  rintro e w' ⟨rfl, hw⟩
  have hw' := hw.symm
  clear hw
  subst hw'
  rw [e2]
  clear e0 e1 e2
  go_wp2_with fail
  refine (clone11 a0 l0 c0 z0 _ r0 (by omega)).mono ?_
  rintro e W1 ⟨a0', c0', rfl, hown0, hb1⟩
  obtain ⟨A, rfl, hAB, hA1⟩ := hown0.mk h2
  have r1' := r1.below hb1
  go_wp2_with fail
  refine (clone11 a1 l1 c1 z1 _ r1' (by omega)).mono ?_
  rintro e W2 ⟨a1', c1', rfl, hown1, hb2⟩
  have hA2 : FB W2 A z0 := hA1.below hb2 hA1.lt
  have hb12 : Below w.heap.size w W2 := hb1.trans (hb2.mono hb1.size)
  have lz0 : z0.length = l0 := hown0.1
  have lz1 : z1.length = l1 := hown1.1
  obtain ⟨O, hO⟩ : ∃ O, 1 < l0 → a1' = some ⟨O, 0, none⟩ ∧ FB W2 O z1 ∧ l0 ≤ l1 + 1 ∧ l1 ≤ z1.length := by
    by_cases hl : 1 ≤ l1
    · obtain ⟨O, h1', _, h3'⟩ := hown1.mk hl
      exact ⟨O, fun _ => ⟨h1', h3', h3, by omega⟩⟩
    · exact ⟨0, fun h => by omega⟩
  have HO : Hid (1 < l0 → a1' = some ⟨O, 0, none⟩ ∧ FB W2 O z1 ∧ l0 ≤ l1 + 1 ∧ l1 ≤ z1.length) := hO
  clear hO hown0 hown1 hb1 hb2 hA1 r1' r0 r1
  go_wp2_with fail
  refine (zzeig20 A O l0 _ l1 _ th a1' z0 z1 W2 hA2 HO.out h2 (by omega) (by omega) hth th64 ho o64).mono ?_
  rintro e W3 ⟨X, xs, rfl, hX1, hX, hxs, hx64, hb3⟩
  have lx : xs.length = l0 := by
    have := congrArg List.length hxs
    rw [List.length_map] at this
    rw [this]; exact iterF_length _ _ _ _ _
  have hbw : Below w.heap.size w W3 := hb12.trans (hb3.mono hb12.size)
  have HXS : Hid (xs.map cn = eigF z0 z1 th l0) := hxs
  clear hxs hb3 hb12 hA2
  go_wp2_with fail
  refine (isUnit21 X l0 l0 xs W3 hX lx (by omega)).mono ?_
  rintro e W4 ⟨n, rfl, rfl⟩
  rw [HXS.out]
  rcases Bool.eq_false_or_eq_true (isUnitF (eigF z0 z1 th l0) l0) with hu | hu
  · rw [hu]
    go_wp2
    go_ret
    exact ⟨rfl, below_drewN hbw _⟩
  · rw [hu]
    go_wp2_with fail
    refine (hasNaN22 X l0 l0 xs _ (hX.drewN _) lx (by omega)).mono ?_
    rintro e W5 ⟨n2, rfl, rfl⟩
    rw [← anyNaN_cn, HXS.out]
    rcases Bool.eq_false_or_eq_true (anyNaN (eigF z0 z1 th l0) l0) with hn | hn
    · rw [hn]
      go_wp2
      go_ret
      exact ⟨rfl, below_drewN hbw _⟩
    · rw [hn]
      have hz : allZero (eigF z0 z1 th l0) l0 = true := by
        rcases HL.out with h | h | h
        · rw [hu] at h; cases h
        · rw [hn] at h; cases h
        · exact h
      go_wp2_with fail
      refine (allZero23 X l0 l0 xs _ (hX.drewN (n + n2)) lx (by omega)).mono ?_
      rintro e W5 ⟨rfl, rfl⟩
      rw [← allZero_cn, HXS.out, hz]
      go_wp2
      go_ret
      exact ⟨rfl, below_drewN hbw _⟩
end Go.Proofs.Qxb6605993a
