/- The walk of the law FnTridiagonalEigenvectorOfDiagonalPicksItsCoordinate: the main road. -/
import Derived.Test.Qxb6605993aLaw7
namespace Go.Proofs.Qxb6605993a
open Go.ChangeShapes Go.WideShapes Go.ChangeAt Go.RowKit
attribute [local go_sem] run_fadd run_fsub run_fmul run_fquo run_store_float unary_fneg

/-- are the first j off-diagonal entries zeros? -/
def prem (zs : List Nat) : Nat → Bool
  | 0 => true
  | j + 1 => prem zs j && (Ieee.double.order (zs.getD j 0) 0 == some .eq)
/-- the search for the one entry that is theta -/
def eqF (x y : Nat) : Bool := Ieee.double.order x y == some .eq
def clash : Option Nat → Bool → Bool
  | none, p => p
  | some _, _ => false
def scanP (p : Bool) (k : Option Nat) (x th : Nat) : Bool :=
  if eqF x th then clash k p else if ltF (zabsF (pf .sub x th)) 4607182418800017408 then false else p
def scanK (k : Option Nat) (x th j : Nat) : Option Nat := if eqF x th then some j else k
def scanF (al : List Nat) (th : Nat) (p0 : Bool) : Nat → Bool × Option Nat
  | 0 => (p0, none)
  | j + 1 => (scanP (scanF al th p0 j).1 (scanF al th p0 j).2 (al.getD j 0) th, scanK (scanF al th p0 j).2 (al.getD j 0) th j)
def kInt : Option Nat → Int
  | none => -1
  | some t => (t : Int)

theorem geF_cn (x y : Nat) : geF (cn x) (cn y) = geF x y := by unfold geF; rw [order_cn]
theorem cn_half : cn 4602678819172646912 = 4602678819172646912 := by decide
theorem cn_one : cn 4607182418800017408 = 4607182418800017408 := by decide
theorem neq_b {x : Nat} (h : (Ieee.double.order x 0 != some .eq) = false) : (Ieee.double.order x 0 == some .eq) = true := by simpa using h

theorem lt_abs_fv {x th : Nat} (w : World) : ltF (zabsF (fv .sub x th w)) 4607182418800017408 = ltF (zabsF (pf .sub x th)) 4607182418800017408 := by
  rw [← ltF_cn, cn_zabs, cn_fv, cn_one]

theorem prem_no {zs : List Nat} {j x : Nat} (hx : x = zs.getD j 0) (h : (Ieee.double.order x 0 != some .eq) = true) : Value.bool false = .bool (prem zs (j + 1)) := by
  unfold prem; rw [← hx, neq_yes h, Bool.and_false]
theorem prem_yes {zs : List Nat} {j x : Nat} (hx : x = zs.getD j 0) (h : (Ieee.double.order x 0 != some .eq) = false) : Value.bool (prem zs j) = .bool (prem zs (j + 1)) := by
  show _ = Value.bool (prem zs j && (Ieee.double.order (zs.getD j 0) 0 == some .eq))
  rw [← hx, neq_b h, Bool.and_true]

theorem scan_eq {al : List Nat} {th j x : Nat} {p0 p q : Bool} {k : Option Nat} (hp : p = (scanF al th p0 j).1) (hk : k = (scanF al th p0 j).2) (hx : x = al.getD j 0) (h : (Ieee.double.order x th == some .eq) = true)
    (hq : q = clash k p) : Value.bool q = .bool (scanF al th p0 (j + 1)).1 ∧ Value.int .i64 j = .int .i64 (kInt (scanF al th p0 (j + 1)).2) := by
  have e : eqF x th = true := h
  have e1 : (scanF al th p0 (j + 1)).1 = scanP (scanF al th p0 j).1 (scanF al th p0 j).2 (al.getD j 0) th := rfl
  have e2 : (scanF al th p0 (j + 1)).2 = scanK (scanF al th p0 j).2 (al.getD j 0) th j := rfl
  rw [e1, e2, ← hp, ← hk, ← hx]
  unfold scanP scanK
  rw [e, if_pos rfl, if_pos rfl, hq]
  exact ⟨rfl, rfl⟩
theorem scan_lt {al : List Nat} {th j x : Nat} {p0 p : Bool} {k : Option Nat} {w : World} (hp : p = (scanF al th p0 j).1) (hk : k = (scanF al th p0 j).2) (hx : x = al.getD j 0) (h : (Ieee.double.order x th == some .eq) = false)
    (hl : (FloatKind.f64.format.order (zabsF (fv .sub x th w)) 4607182418800017408 == some .lt) = true) : Value.bool false = .bool (scanF al th p0 (j + 1)).1 ∧ Value.int .i64 (kInt k) = .int .i64 (kInt (scanF al th p0 (j + 1)).2) := by
  have e : eqF x th = false := h
  have hl' : ltF (zabsF (fv .sub x th w)) 4607182418800017408 = true := hl
  rw [lt_abs_fv] at hl'
  have e1 : (scanF al th p0 (j + 1)).1 = scanP (scanF al th p0 j).1 (scanF al th p0 j).2 (al.getD j 0) th := rfl
  have e2 : (scanF al th p0 (j + 1)).2 = scanK (scanF al th p0 j).2 (al.getD j 0) th j := rfl
  rw [e1, e2, ← hp, ← hk, ← hx]
  unfold scanP scanK
  rw [e, hl']
  exact ⟨rfl, rfl⟩
theorem scan_ge {al : List Nat} {th j x : Nat} {p0 p : Bool} {k : Option Nat} {w : World} (hp : p = (scanF al th p0 j).1) (hk : k = (scanF al th p0 j).2) (hx : x = al.getD j 0) (h : (Ieee.double.order x th == some .eq) = false)
    (hl : (FloatKind.f64.format.order (zabsF (fv .sub x th w)) 4607182418800017408 == some .lt) = false) : Value.bool p = .bool (scanF al th p0 (j + 1)).1 ∧ Value.int .i64 (kInt k) = .int .i64 (kInt (scanF al th p0 (j + 1)).2) := by
  have e : eqF x th = false := h
  have hl' : ltF (zabsF (fv .sub x th w)) 4607182418800017408 = false := hl
  rw [lt_abs_fv] at hl'
  have e1 : (scanF al th p0 (j + 1)).1 = scanP (scanF al th p0 j).1 (scanF al th p0 j).2 (al.getD j 0) th := rfl
  have e2 : (scanF al th p0 (j + 1)).2 = scanK (scanF al th p0 j).2 (al.getD j 0) th j := rfl
  rw [e1, e2, ← hp, ← hk, ← hx]
  unfold scanP scanK
  rw [e, hl']
  exact ⟨rfl, rfl⟩

set_option maxHeartbeats 2000000 in
theorem law7_main (a0 a1 : Option Addr) (l0 c0 l1 c1 th : Nat) (z0 z1 : List Nat) (w : World) (r0 : IsRowF w a0 l0 c0 z0) (r1 : IsRowF w a1 l1 c1 z1) (h0 : l0 ≤ 4096) (h1 : l1 ≤ 65536) (h2 : 1 ≤ l0) (h3 : l0 ≤ l1 + 1)
    (e0 : allWithin z0 4715268809856909312 l0 = true) (e1 : allWithin z1 4715268809856909312 (l0 - 1) = true) (e2 : withinF th 4724276009111650304 = true)
    (hth : Fl.Fin th) (th64 : th < 18446744073709551616) (ho : ∀ j, j + 1 < l0 → Fl.Fin (z1.getD j 0))
    (hlaw : ∀ k, scanF z0 th (prem z1 (l0 - 1)) l0 = (true, some k) → k < l0 ∧ isUnitF (eigF z0 z1 th l0) l0 = true ∧ geF (zabsF ((eigF z0 z1 th l0).getD k 0)) 4602678819172646912 = true) :
    Calls Try.prog 7 #[.slice a0 l0 c0, .slice a1 l1 c1, .float .f64 th] w fun e w' => e = .returned (.bool true) ∧ Below w.heap.size w w' := by
  have hk : ((l0 : Int) - 1) = ((l0 - 1 : Nat) : Int) := by omega
  have HK : Hid (((l0 : Int) - 1) = ((l0 - 1 : Nat) : Int)) := hk
  have HL : Hid (∀ k, scanF z0 th (prem z1 (l0 - 1)) l0 = (true, some k) → k < l0 ∧ isUnitF (eigF z0 z1 th l0) l0 = true ∧ geF (zabsF ((eigF z0 z1 th l0).getD k 0)) 4602678819172646912 = true) := hlaw
  clear hk hlaw
  have h4 : ¬ (l1 : Int) < (l0 : Int) - 1 := by omega
  have o64 := r1.w64
  go_enter Try.func7, Try.ntmps7
  go_wp2_with fail
  refine (bytes24 _ _ _ _ _ _ _ _ (by omega)).mono ?_
  rintro e w' ⟨rfl, hw⟩
  have hw' := hw.symm
  clear hw
  subst hw'
  go_wp2_with fail
  refine (allWithin10 a0 l0 c0 l0 _ z0 _ r0 (Nat.le_refl _) (by omega)).mono ?_
  rintro e w' ⟨rfl, hw⟩
  have hw' := hw.symm
  clear hw
  subst hw'
  rw [e0]
  go_wp2_with fail
  rw [HK.out]
  refine (allWithin10 a1 l1 c1 (l0 - 1) _ z1 _ r1 (by omega) (by omega)).mono ?_
  rintro e w' ⟨rfl, hw⟩
  have hw' := hw.symm
  clear hw
  subst hw'
  rw [e1]
  go_wp2_with fail
  refine (within19 th _ _).mono ?_
  rintro e w' ⟨rfl, hw⟩
  have hw' := hw.symm
  clear hw
  subst hw'
  rw [e2]
  clear e0 e1 e2
  go_wp2_with fail
  refine (clone11 a0 l0 c0 z0 _ r0 (by omega)).mono ?_
  rintro e W1 ⟨a0', c0', rfl, hown0, hb1⟩
  obtain ⟨A, rfl, hAB, hA1⟩ := hown0.mk h2
  have r1' := r1.below hb1
  go_wp2_with fail
  refine (clone11 a1 l1 c1 z1 _ r1' (by omega)).mono ?_
  rintro e W2 ⟨a1', c1', rfl, hown1, hb2⟩
  have hA2 : FB W2 A z0 := hA1.below hb2 hA1.lt
  have hb12 : Below w.heap.size w W2 := hb1.trans (hb2.mono hb1.size)
  have lz0 : z0.length = l0 := hown0.1
  have lz1 : z1.length = l1 := hown1.1
  obtain ⟨O, hO⟩ : ∃ O, 1 < l0 → a1' = some ⟨O, 0, none⟩ ∧ FB W2 O z1 ∧ l0 ≤ l1 + 1 ∧ l1 ≤ z1.length := by
    by_cases hl : 1 ≤ l1
    · obtain ⟨O, h1', _, h3'⟩ := hown1.mk hl
      exact ⟨O, fun _ => ⟨h1', h3', h3, by omega⟩⟩
    · exact ⟨0, fun h => by omega⟩
  have HO : Hid (1 < l0 → a1' = some ⟨O, 0, none⟩ ∧ FB W2 O z1 ∧ l0 ≤ l1 + 1 ∧ l1 ≤ z1.length) := hO
  clear hO hown0 hown1 hb1 hb2 hA1 r1' r0 r1
  go_wp2
  go_loop [8, 9] (fun p i => ∃ j : Nat, j + 1 ≤ l0 ∧ i = .int .i64 j ∧ p = .bool (prem z1 j)) (fun _ i => l0 - (intOf i).toNat)
  case atStart => exact ⟨0, h2, rfl, rfl⟩
  case round =>
    obtain ⟨j, hj, rfl, rfl⟩ := hrel
    by_cases hlt : j + 1 < l0
    · obtain ⟨ha1, hO, _, _⟩ := HO.out (by omega)
      subst ha1
      have c1 := hO.cell (show j < z1.length by omega)
      obtain ⟨x, hx'⟩ : ∃ v, v = z1.getD j 0 := ⟨_, rfl⟩
      rw [← hx'] at c1
      have HX : Hid (x = z1.getD j 0) := hx'
      clear hx'
      have b0 : (j : Int) + 1 < (l0 : Int) := by omega
      have b1 : (j : Int) < (l1 : Int) := by omega
      go_wp2
      · have h : (FloatKind.f64.format.order x 0 != some .eq) = true := by assumption
        go_round
        case rel => exact ⟨j + 1, by omega, by go_num, prem_no HX.out h⟩
        case measure => simp [intOf]; omega
      · have h : (FloatKind.f64.format.order x 0 != some .eq) = false := by assumption
        go_round
        case rel => exact ⟨j + 1, by omega, by go_num, prem_yes HX.out h⟩
        case measure => simp [intOf]; omega
    · have b0 : ¬ (j : Int) + 1 < (l0 : Int) := by omega
      obtain rfl : j = l0 - 1 := by omega
      generalize hp : prem z1 (l0 - 1) = p0 at *
      go_wp2
      clear hp b0 hlt hj
      go_loopw [8, 10, 11] (fun p k i wr => ∃ j n : Nat, j ≤ l0 ∧ i = .int .i64 j ∧ p = .bool (scanF z0 th p0 j).1 ∧ k = .int .i64 (kInt (scanF z0 th p0 j).2) ∧ wr = W2.drewN n) (fun _ _ i _ => l0 - (intOf i).toNat)
      case atStart => exact ⟨0, 0, Nat.zero_le _, rfl, rfl, rfl, rfl⟩
      case round =>
        obtain ⟨j, n, hj, rfl, rfl, rfl, rfl⟩ := hrel
        obtain ⟨p, hp⟩ : ∃ p, p = (scanF z0 th p0 j).1 := ⟨_, rfl⟩
        obtain ⟨k, hk⟩ : ∃ k, k = (scanF z0 th p0 j).2 := ⟨_, rfl⟩
        rw [← hp, ← hk]
        have HPP : Hid (p = (scanF z0 th p0 j).1) := hp
        have HKK : Hid (k = (scanF z0 th p0 j).2) := hk
        clear hp hk
        by_cases hlt : j < l0
        · have c1 := hA2.cell (show j < z0.length by omega)
          obtain ⟨x, hx'⟩ : ∃ v, v = z0.getD j 0 := ⟨_, rfl⟩
          rw [← hx'] at c1
          have HX : Hid (x = z0.getD j 0) := hx'
          clear hx'
          cases k with
          | none =>
            rw [show kInt none = -1 from rfl]
            go_wp2_with (go_at_call 14; refine (zabs14 _ _).mono ?_; rintro e w' ⟨rfl, rfl⟩)
            · have h : (FloatKind.f64.format.order x th == some .eq) = true := by assumption
              go_roundw
              case rel =>
                have R := scan_eq (q := p) HPP.out HKK.out HX.out h rfl
                exact ⟨j + 1, _, by omega, by go_num, R.1, R.2, rfl⟩
              case measure => simp [intOf]; omega
            · have h : (FloatKind.f64.format.order x th == some .eq) = false := by assumption
              go_roundw
              case rel =>
                have R := scan_lt HPP.out HKK.out HX.out h (by assumption)
                exact ⟨j + 1, _, by omega, by go_num, R.1, R.2, rfl⟩
              case measure => simp [intOf]; omega
            · have h : (FloatKind.f64.format.order x th == some .eq) = false := by assumption
              go_roundw
              case rel =>
                have R := scan_ge HPP.out HKK.out HX.out h (by assumption)
                exact ⟨j + 1, _, by omega, by go_num, R.1, R.2, rfl⟩
              case measure => simp [intOf]; omega
          | some t =>
            rw [show kInt (some t) = (t : Int) from rfl]
            have t0 : (0 : Int) ≤ (t : Int) := by omega
            go_wp2_with (go_at_call 14; refine (zabs14 _ _).mono ?_; rintro e w' ⟨rfl, rfl⟩)
            · have h : (FloatKind.f64.format.order x th == some .eq) = true := by assumption
              go_roundw
              case rel =>
                have R := scan_eq (q := false) HPP.out HKK.out HX.out h rfl
                exact ⟨j + 1, _, by omega, by go_num, R.1, R.2, rfl⟩
              case measure => simp [intOf]; omega
            · have h : (FloatKind.f64.format.order x th == some .eq) = false := by assumption
              go_roundw
              case rel =>
                have R := scan_lt HPP.out HKK.out HX.out h (by assumption)
                exact ⟨j + 1, _, by omega, by go_num, R.1, R.2, rfl⟩
              case measure => simp [intOf]; omega
            · have h : (FloatKind.f64.format.order x th == some .eq) = false := by assumption
              go_roundw
              case rel =>
                have R := scan_ge HPP.out HKK.out HX.out h (by assumption)
                exact ⟨j + 1, _, by omega, by go_num, R.1, R.2, rfl⟩
              case measure => simp [intOf]; omega
        · obtain rfl : j = l0 := by omega
          have hA3 : FB (W2.drewN n) A z0 := hA2.drewN n
          have hO3 : Hid (1 < j → a1' = some ⟨O, 0, none⟩ ∧ FB (W2.drewN n) O z1 ∧ j ≤ l1 + 1 ∧ l1 ≤ z1.length) := fun h => by
            obtain ⟨q1, q2, q3, q4⟩ := HO.out h
            exact ⟨q1, q2.drewN n, q3, q4⟩
          have hb13 : Below w.heap.size w (W2.drewN n) := below_drewN hb12 _
          generalize W2.drewN n = W3 at *
          clear HO hA2 hb12
          cases k with
          | none =>
            rw [show kInt none = -1 from rfl]
            go_wp2_with fail
            refine (zzeig20 A O j _ l1 _ th a1' z0 z1 W3 hA3 hO3.out h2 (by omega) (by omega) hth th64 ho o64).mono ?_
            rintro e W4 ⟨X, xs, rfl, hX1, hX, hxs, hx64, hb3⟩
            have hbw : Below w.heap.size w W4 := hb13.trans (hb3.mono hb13.size)
            clear hxs hb3 hb13 hA3 hO3
            go_wp2
            go_ret
            exact ⟨rfl, hbw⟩
          | some t =>
            rw [show kInt (some t) = (t : Int) from rfl]
            have t0 : (0 : Int) ≤ (t : Int) := by omega
            go_wp2_with fail
            refine (zzeig20 A O j _ l1 _ th a1' z0 z1 W3 hA3 hO3.out h2 (by omega) (by omega) hth th64 ho o64).mono ?_
            rintro e W4 ⟨X, xs, rfl, hX1, hX, hxs, hx64, hb3⟩
            have hbw : Below w.heap.size w W4 := hb13.trans (hb3.mono hb13.size)
            have HXS : Hid (xs.map cn = eigF z0 z1 th j) := hxs
            have lx : xs.length = j := by
              have := congrArg List.length hxs
              rw [List.length_map] at this
              rw [this]; exact iterF_length _ _ _ _ _
            clear hxs hb3 hb13 hA3 hO3
            cases p with
            | false =>
              go_wp2
              go_ret
              exact ⟨rfl, hbw⟩
            | true =>
              obtain ⟨tl, hu, hg⟩ := HL.out t (Prod.ext HPP.out.symm HKK.out.symm)
              have tl' : (t : Int) < (j : Int) := by omega
              have c1 := hX.cell (show t < xs.length by omega)
              have hg2 : geF (zabsF (xs.getD t 0)) 4602678819172646912 = true := by
                rw [← HXS.out, map_cn_getD, ← cn_zabs, ← cn_half, geF_cn] at hg; exact hg
              have HG : Hid (geF (zabsF (xs.getD t 0)) 4602678819172646912 = true) := hg2
              clear hg hg2
              go_wp2_with fail
              refine (isUnit21 X j j xs W4 hX lx (by omega)).mono ?_
              rintro e W5 ⟨n2, rfl, rfl⟩
              rw [HXS.out, hu]
              generalize xs.getD t 0 = v at c1 HG
              go_wp2_with (go_at_call 14; refine (zabs14 _ _).mono ?_; rintro e w' ⟨rfl, rfl⟩)
              go_ret
              exact ⟨ret_b HG.out, below_drewN hbw _⟩
end Go.Proofs.Qxb6605993a
