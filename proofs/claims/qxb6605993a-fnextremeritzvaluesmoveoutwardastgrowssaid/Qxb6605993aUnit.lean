/- zzIsUnit, zzHasNaN, zzAllZero. -/
import Derived.Test.Qxb6605993aLeaf
namespace Go.Proofs.Qxb6605993a
open Go.ChangeShapes Go.WideShapes Go.ChangeAt Go.RowKit
attribute [local go_sem] run_fadd run_fsub run_fmul run_fquo run_store_float unary_fneg

theorem leF_cn (x y : Nat) : leF (cn x) (cn y) = leF x y := by unfold leF; rw [order_cn]
theorem ltF_cn (x y : Nat) : ltF (cn x) (cn y) = ltF x y := by unfold ltF; rw [order_cn]
theorem cn_zero : cn 0 = 0 := by decide
theorem ltF_notN {x y : Nat} (h : ltF x y = true) : isN x = false := by
  cases hx : isN x
  · rfl
  · unfold ltF at h; rw [order_nan (Or.inl hx)] at h; cases h
theorem isN_negW (x : Nat) : isN (negW x) = isN x := by
  unfold isN negW
  have e : (x ^^^ 9223372036854775808) % 9223372036854775808 = x % 9223372036854775808 := by
    have := Nat.xor_mod_two_pow (a := x) (b := 9223372036854775808) (n := 63)
    rw [show (2 : Nat) ^ 63 = 9223372036854775808 from rfl] at this
    rw [this]; simp
  rw [e]
theorem negW_lt {x : Nat} (hx : x < 18446744073709551616) : negW x < 18446744073709551616 := Nat.xor_lt_two_pow (n := 64) hx (by omega)
theorem zabsF_lt {x : Nat} (hx : x < 18446744073709551616) : zabsF x < 18446744073709551616 := by
  unfold zabsF; split
  · exact negW_lt hx
  · exact hx
theorem cn_zabs (x : Nat) : cn (zabsF x) = zabsF (cn x) := by
  unfold zabsF
  have e : ltF (cn x) 0 = ltF x 0 := by rw [← cn_zero, ltF_cn, cn_zero]
  rw [e]
  split
  · rename_i h
    have hn := ltF_notN h
    rw [cn_of_not hn, cn_of_not (by rw [isN_negW x]; exact hn)]
  · rfl

def isUnitF (xs : List Nat) (m : Nat) : Bool := leF (zabsF (pf .sub (dotF xs xs m) 4607182418800017408)) (pf .mul 4382569440205035030 (floatOfInt .f64 ((m : Int) + 8)))

theorem isUnit_eq {xs : List Nat} {m r f : Nat} (w1 w2 : World) (hr : cn r = dotF (xs.map cn) (xs.map cn) m) (hf : f = floatOfInt .f64 ((m : Int) + 8)) :
    leF (zabsF (fv .sub r 4607182418800017408 w1)) (fv .mul 4382569440205035030 f w2) = isUnitF (xs.map cn) m := by
  have e2 : cn 4607182418800017408 = 4607182418800017408 := by decide
  have e3 : pf .sub r 4607182418800017408 = pf .sub (dotF (xs.map cn) (xs.map cn) m) 4607182418800017408 := by
    rw [← hr, ← pf_cn .sub r, e2]
  unfold isUnitF
  rw [← leF_cn, cn_zabs, cn_fv, cn_fv, hf, e3]

theorem isUnit21 (X m cx : Nat) (xs : List Nat) (w : World) (hX : FB w X xs) (hx : xs.length = m) (hm : m ≤ 1048576) :
    Calls Try.prog 21 #[.slice (some ⟨X, 0, none⟩) m cx] w fun e w' => ∃ n, e = .returned (.bool (isUnitF (xs.map cn) m)) ∧ w' = w.drewN n := by
  have u3 := Try.underlying3
  have u22 := Try.underlying22
  go_enter Try.func21, Try.ntmps21
  go_wp2
  go_loopw [3, 4] (fun s i wr => ∃ k r n : Nat, k ≤ m ∧ i = .int .i64 k ∧ s = .float .f64 r ∧ cn r = dotF (xs.map cn) (xs.map cn) k ∧ r < 18446744073709551616 ∧ wr = w.drewN n) (fun _ i _ => m - (intOf i).toNat)
  case atStart => exact ⟨0, 0, 0, Nat.zero_le _, rfl, rfl, rfl, by decide, rfl⟩
  case round =>
    obtain ⟨k, r, n, hk, rfl, rfl, hr, hlt64, rfl⟩ := hrel
    have HR : Hid (cn r = dotF (xs.map cn) (xs.map cn) k) := hr
    clear hr
    by_cases hlt : k < m
    · have c1 := hX.cell (show k < xs.length by omega)
      obtain ⟨x, hx'⟩ : ∃ v, v = xs.getD k 0 := ⟨_, rfl⟩
      rw [← hx'] at c1
      have HX : Hid (x = xs.getD k 0) := hx'
      clear hx'
      go_wp2
      go_region
      go_wp2
      go_roundw
      case rel => exact ⟨k + 1, _, _, by omega, by go_num, rfl, dot_step xs xs k r _ _ _ _ HR.out HX.out HX.out, fv_lt _ _ _ _, rfl⟩
      case measure => simp [intOf]; omega
    · obtain rfl : k = m := by omega
      go_wp2_with fail
      refine (zabs14 _ _).mono ?_
      rintro e w' ⟨rfl, rfl⟩
      go_wp2
      go_ret
      exact ⟨_, ret_b (isUnit_eq _ _ HR.out rfl), rfl⟩

/-- some entry is not itself -/
def anyNaN (xs : List Nat) : Nat → Bool
  | 0 => false
  | k + 1 => anyNaN xs k || (Ieee.double.order (xs.getD k 0) (xs.getD k 0) != some .eq)
def allZero (xs : List Nat) : Nat → Bool
  | 0 => true
  | k + 1 => allZero xs k && (Ieee.double.order (xs.getD k 0) 0 == some .eq)
theorem anyNaN_of {xs : List Nat} {k i : Nat} (hi : i < k) (h : (Ieee.double.order (xs.getD i 0) (xs.getD i 0) != some .eq) = true) : anyNaN xs k = true := by
  induction k with
  | zero => omega
  | succ k ih =>
    unfold anyNaN
    by_cases e : i = k
    · subst e; rw [h]; simp
    · rw [ih (by omega)]; rfl
theorem allZero_no {xs : List Nat} {k i : Nat} (hi : i < k) (h : (Ieee.double.order (xs.getD i 0) 0 == some .eq) = false) : allZero xs k = false := by
  induction k with
  | zero => omega
  | succ k ih =>
    unfold allZero
    by_cases e : i = k
    · subst e; rw [h]; simp
    · rw [ih (by omega)]; rfl

theorem hasNaN22 (X m cx : Nat) (xs : List Nat) (w : World) (hX : FB w X xs) (hx : xs.length = m) (hm : m ≤ 1048576) :
    Calls Try.prog 22 #[.slice (some ⟨X, 0, none⟩) m cx] w fun e w' => ∃ n, e = .returned (.bool (anyNaN xs m)) ∧ w' = w.drewN n := by
  go_enter Try.func22, Try.ntmps22
  go_wp2
  go_loopw [3] (fun i wr => ∃ k n : Nat, k ≤ m ∧ i = .int .i64 k ∧ anyNaN xs k = false ∧ wr = w.drewN n) (fun i _ => m - (intOf i).toNat)
  case atStart => exact ⟨0, 0, Nat.zero_le _, rfl, rfl, rfl⟩
  case round =>
    obtain ⟨k, n, hk, rfl, hr, rfl⟩ := hrel
    have HR : Hid (anyNaN xs k = false) := hr
    clear hr
    by_cases hlt : k < m
    · have c1 := hX.cell (show k < xs.length by omega)
      obtain ⟨x, hx'⟩ : ∃ v, v = xs.getD k 0 := ⟨_, rfl⟩
      rw [← hx'] at c1
      have HX : Hid (x = xs.getD k 0) := hx'
      clear hx'
      go_wp2
      go_region
      go_wp2
      · have h : (FloatKind.f64.format.order x x != some .eq) = true := by assumption
        go_ret
        exact ⟨_, ret_b (anyNaN_of hlt (by rw [← HX.out]; exact h)).symm, rfl⟩
      · have h : (FloatKind.f64.format.order x x != some .eq) = false := by assumption
        go_roundw
        case rel => exact ⟨k + 1, _, by omega, by go_num, by unfold anyNaN; rw [HR.out, ← HX.out]; exact h, rfl⟩
        case measure => simp [intOf]; omega
    · obtain rfl : k = m := by omega
      go_wp2
      go_ret
      exact ⟨_, ret_b HR.out.symm, rfl⟩

theorem neq_yes {x : Nat} (h : (Ieee.double.order x 0 != some .eq) = true) : (Ieee.double.order x 0 == some .eq) = false := by simpa using h
theorem neq_no {x : Nat} (h : (Ieee.double.order x 0 != some .eq) = false) : (true && (Ieee.double.order x 0 == some .eq)) = true := by simpa using h

theorem allZero23 (X m cx : Nat) (xs : List Nat) (w : World) (hX : FB w X xs) (hx : xs.length = m) (hm : m ≤ 1048576) :
    Calls Try.prog 23 #[.slice (some ⟨X, 0, none⟩) m cx] w fun e w' => e = .returned (.bool (allZero xs m)) ∧ w' = w := by
  go_enter Try.func23, Try.ntmps23
  go_wp2
  go_loop [3] (fun i => ∃ k : Nat, k ≤ m ∧ i = .int .i64 k ∧ allZero xs k = true) (fun i => m - (intOf i).toNat)
  case atStart => exact ⟨0, Nat.zero_le _, rfl, rfl⟩
  case round =>
    obtain ⟨k, hk, rfl, hr⟩ := hrel
    have HR : Hid (allZero xs k = true) := hr
    clear hr
    by_cases hlt : k < m
    · have c1 := hX.cell (show k < xs.length by omega)
      obtain ⟨x, hx'⟩ : ∃ v, v = xs.getD k 0 := ⟨_, rfl⟩
      rw [← hx'] at c1
      have HX : Hid (x = xs.getD k 0) := hx'
      clear hx'
      go_wp2
      · have h : (FloatKind.f64.format.order x 0 != some .eq) = true := by assumption
        go_ret
        exact ⟨ret_b (allZero_no hlt (by rw [← HX.out]; exact neq_yes h)).symm, rfl⟩
      · have h : (FloatKind.f64.format.order x 0 != some .eq) = false := by assumption
        go_round
        case rel => exact ⟨k + 1, by omega, by go_num, by unfold allZero; rw [HR.out, ← HX.out]; exact neq_no h⟩
        case measure => simp [intOf]; omega
    · obtain rfl : k = m := by omega
      go_wp2
      go_ret
      exact ⟨ret_b HR.out.symm, rfl⟩

theorem anyNaN_cn (xs : List Nat) (k : Nat) : anyNaN (xs.map cn) k = anyNaN xs k := by
  induction k with
  | zero => rfl
  | succ k ih => unfold anyNaN; rw [ih, map_cn_getD, order_cn]
theorem allZero_cn (xs : List Nat) (k : Nat) : allZero (xs.map cn) k = allZero xs k := by
  induction k with
  | zero => rfl
  | succ k ih =>
    unfold allZero
    rw [ih, map_cn_getD]
    have : Ieee.double.order (cn (xs.getD k 0)) 0 = Ieee.double.order (xs.getD k 0) 0 := by rw [← cn_zero, order_cn, cn_zero]
    rw [this]
end Go.Proofs.Qxb6605993a
