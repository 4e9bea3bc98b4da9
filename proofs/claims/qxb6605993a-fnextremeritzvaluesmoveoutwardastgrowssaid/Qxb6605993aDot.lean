/- The walks of dot, norm, scale. -/
import Derived.Test.Qxb6605993aFB
import Derived.Deep.QuietTactic
import Derived.BigQuiet
import Derived.RegionTactic
namespace Go.Proofs.Qxb6605993a
open Go.ChangeShapes Go.WideShapes Go.ChangeAt Go.RowKit
attribute [local go_sem] run_fadd run_fsub run_fmul run_fquo run_store_float

/-- the inner product of the first k entries, in the order of the loop -/
def dotF (xs ys : List Nat) : Nat → Nat
  | 0 => 0
  | k + 1 => pf .add (dotF xs ys k) (pf .mul (xs.getD k 0) (ys.getD k 0))

/-- the first k entries multiplied -/
def scaleTo (xs : List Nat) (a : Nat) : Nat → List Nat
  | 0 => xs
  | k + 1 => (scaleTo xs a k).set k (pf .mul (xs.getD k 0) a)

theorem dot_step (xs ys : List Nat) (k r : Nat) (x y : Nat) (w1 w2 : World) (h : cn r = dotF (xs.map cn) (ys.map cn) k) (hx : x = xs[k]?.getD 0) (hy : y = ys[k]?.getD 0) :
    cn (fv .add r (fv .mul x y w1) w2) = dotF (xs.map cn) (ys.map cn) (k + 1) := by
  subst hx; subst hy
  rw [cn_fv, ← pf_cn, cn_fv, h]
  show _ = pf .add _ (pf .mul _ _)
  rw [map_cn_getD, map_cn_getD, pf_cn]
  rfl

theorem getD_set_rest {xs ys : List Nat} {k : Nat} (h : ∀ j, k ≤ j → ys.getD j 0 = xs.getD j 0) (v : Nat) : ∀ j, k + 1 ≤ j → (ys.set k v).getD j 0 = xs.getD j 0 := by
  intro j hj
  rw [← h j (by omega), List.getD_eq_getElem?_getD, List.getD_eq_getElem?_getD, List.getElem?_set_ne (by omega)]

theorem scaleTo_length (xs : List Nat) (a : Nat) (k : Nat) : (scaleTo xs a k).length = xs.length := by
  induction k with
  | zero => rfl
  | succ k ih => unfold scaleTo; rw [List.length_set, ih]

theorem dot42 (X Y m cx cy : Nat) (xs ys : List Nat) (w : World) (hX : FB w X xs) (hY : FB w Y ys) (hx : m ≤ xs.length) (hy : m ≤ ys.length) (hm : m ≤ 1048576) :
    Calls Try.prog 42 #[.slice (some ⟨X, 0, none⟩) m cx, .slice (some ⟨Y, 0, none⟩) m cy] w fun e w' => ∃ r n, e = .returned (.float .f64 r) ∧ cn r = dotF (xs.map cn) (ys.map cn) m ∧ r < 18446744073709551616 ∧ w' = w.drewN n := by
  go_enter Try.func42, Try.ntmps42
  go_wp2
  go_loopw [5, 9] (fun s i wr => ∃ k r n : Nat, k ≤ m ∧ i = .int .i64 k ∧ s = .float .f64 r ∧ cn r = dotF (xs.map cn) (ys.map cn) k ∧ r < 18446744073709551616 ∧ wr = w.drewN n) (fun _ i _ => m - (intOf i).toNat)
  case atStart => exact ⟨0, 0, 0, Nat.zero_le _, rfl, rfl, rfl, by decide, rfl⟩
  case round =>
    obtain ⟨k, r, n, hk, rfl, rfl, hr, hlt64, rfl⟩ := hrel
    have HR : Hid (cn r = dotF (xs.map cn) (ys.map cn) k) := hr
    clear hr
    by_cases hlt : k < m
    · have c1 := hX.cell (show k < xs.length by omega)
      have c2 := hY.cell (show k < ys.length by omega)
      go_wp2
      go_region
      go_wp2
      go_roundw
      case rel => exact ⟨k + 1, _, _, by omega, by go_num, rfl, dot_step xs ys k r _ _ _ _ HR.out rfl rfl, fv_lt _ _ _ _, rfl⟩
      case measure => simp [intOf]; omega
    · have e : k = m := by omega
      subst e
      go_wp2
      go_ret
      exact ⟨_, _, rfl, HR.out, hlt64, rfl⟩

theorem norm34 (X m cx : Nat) (xs : List Nat) (w : World) (hX : FB w X xs) (hx : m ≤ xs.length) (hm : m ≤ 1048576) :
    Calls Try.prog 34 #[.slice (some ⟨X, 0, none⟩) m cx] w fun e w' => ∃ r n, e = .returned (.float .f64 r) ∧ cn r = psq (dotF (xs.map cn) (xs.map cn) m) ∧ r < 18446744073709551616 ∧ w' = w.drewN n := by
  go_enter Try.func34, Try.ntmps34
  go_wp2_with fail
  refine (dot42 X X m _ _ xs xs _ hX hX hx hx hm).mono ?_
  rintro e w' ⟨r, n, rfl, hr, hr64, rfl⟩
  have HR : Hid (cn r = dotF (xs.map cn) (xs.map cn) m) := hr
  clear hr
  go_wp2_with fail
  refine (sqrt41 r _).mono ?_
  rintro e w' ⟨rfl, rfl⟩
  go_wp2
  go_ret
  exact ⟨_, _, rfl, by rw [cn_fsq, ← HR.out, psq_cn], fsq_lt _ _, rfl⟩

theorem scale33 (X m cx a : Nat) (xs : List Nat) (w : World) (hX : FB w X xs) (hx : xs.length = m) (hm : m ≤ 1048576) (h64 : W64 xs) :
    Calls Try.prog 33 #[.slice (some ⟨X, 0, none⟩) m cx, .float .f64 a] w fun e w' => ∃ ys, e = .returned (.tuple #[]) ∧ FB w' X ys ∧ ys.map cn = scaleTo (xs.map cn) (cn a) m ∧ W64 ys ∧ w.grownBy w' (some X) := by
  go_enter Try.func33, Try.ntmps33
  go_wp2
  go_loopw [7] (fun i wr => ∃ (k : Nat) (ys : List Nat), k ≤ m ∧ i = .int .i64 k ∧ FB wr X ys ∧ ys.map cn = scaleTo (xs.map cn) (cn a) k ∧ (∀ j, k ≤ j → ys.getD j 0 = xs.getD j 0) ∧ W64 ys ∧ w.grownBy wr (some X)) (fun i _ => m - (intOf i).toNat)
  case atStart => exact ⟨0, xs, Nat.zero_le _, rfl, hX, rfl, fun _ _ => rfl, h64, grown_refl _ _⟩
  case round =>
    obtain ⟨k, ys, hk, rfl, hF, hc, hrest, h64', hg⟩ := hrel
    have HC : Hid (ys.map cn = scaleTo (xs.map cn) (cn a) k) := hc
    have HR : Hid (∀ j, k ≤ j → ys.getD j 0 = xs.getD j 0) := hrest
    clear hc hrest
    have hlen : ys.length = m := by
      have h1 : (ys.map cn).length = m := by rw [HC.out, scaleTo_length]; simpa using hx
      simpa using h1
    by_cases hlt : k < m
    · have c1 := hF.cell (show k < ys.length by omega)
      have f1 := hF.frozen k
      have e1 := HR.out k (Nat.le_refl _)
      rw [e1] at c1
      clear e1
      obtain ⟨xk, hxk⟩ : ∃ v, v = xs.getD k 0 := ⟨_, rfl⟩
      rw [← hxk] at c1
      have HX : Hid (xk = xs.getD k 0) := hxk
      clear hxk
      go_wp2
      go_roundw
      case rel => exact ⟨k + 1, _, by omega, by go_num, (hF.drewN _).set k _, by rw [map_cn_set, HC.out, cn_fv, HX.out]; show _ = (scaleTo _ _ k).set k _; rw [map_cn_getD, pf_cn], getD_set_rest HR.out _, h64'.set k (fv_lt _ _ _ _), grown_set (grown_drewN hg _) k _⟩
      case measure => simp [intOf]; omega
    · have e : k = m := by omega
      subst e
      go_wp2
      go_end0
      exact ⟨ys, rfl, hF, HC.out, h64', hg⟩
end Go.Proofs.Qxb6605993a
