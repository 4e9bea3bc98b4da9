/- The law's own small functions: zzAbs, zzMax, zzMin, zzWithin, zzAllWithin, zzCloneF, zzIsUnit, zzHasNaN, zzAllZero. -/
import Derived.Test.Qxb6605993aDot
import Derived.Test.Qxb6605993aSolve
namespace Go.Proofs.Qxb6605993a
open Go.ChangeShapes Go.WideShapes Go.ChangeAt Go.RowKit
attribute [local go_sem] run_fadd run_fsub run_fmul run_fquo run_store_float

def negW (x : Nat) : Nat := x ^^^ 9223372036854775808
def ltF (x y : Nat) : Bool := Ieee.double.order x y == some .lt
def leF (x y : Nat) : Bool := Ieee.double.order x y == some .lt || Ieee.double.order x y == some .eq
def geF (x y : Nat) : Bool := Ieee.double.order x y == some .gt || Ieee.double.order x y == some .eq
def zabsF (x : Nat) : Nat := if ltF x 0 then negW x else x
def zmaxF (a b : Nat) : Nat := if gtF a b then a else b
def zminF (a b : Nat) : Nat := if ltF a b then a else b
def withinF (x lim : Nat) : Bool := geF x (negW lim) && leF x lim

theorem unary_fneg (x : Nat) : Op.unary .neg (.float .f64 x) = pure (.float .f64 (negW x)) := rfl
attribute [local go_sem] unary_fneg

theorem ret_f {a b : Nat} (h : a = b) : Ending.returned (.float .f64 a) = .returned (.float .f64 b) := by rw [h]
theorem ret_b {a b : Bool} (h : a = b) : Ending.returned (.bool a) = .returned (.bool b) := by rw [h]

theorem zabs14 (x : Nat) (w : World) : Calls Try.prog 14 #[.float .f64 x] w fun e w' => e = .returned (.float .f64 (zabsF x)) ∧ w' = w := by
  go_enter Try.func14, Try.ntmps14
  go_wp2
  · have h : (FloatKind.f64.format.order x 0 == some .lt) = true := by assumption
    go_ret
    exact ⟨ret_f (if_pos h).symm, rfl⟩
  · have h : (FloatKind.f64.format.order x 0 == some .lt) = false := by assumption
    go_ret
    exact ⟨ret_f (if_neg (by unfold ltF; rw [show (Ieee.double.order x 0 == some .lt) = false from h]; decide)).symm, rfl⟩

theorem zmax15 (x y : Nat) (w : World) : Calls Try.prog 15 #[.float .f64 x, .float .f64 y] w fun e w' => e = .returned (.float .f64 (zmaxF x y)) ∧ w' = w := by
  go_enter Try.func15, Try.ntmps15
  go_wp2
  · have h : (FloatKind.f64.format.order x y == some .gt) = true := by assumption
    go_ret
    exact ⟨ret_f (if_pos h).symm, rfl⟩
  · have h : (FloatKind.f64.format.order x y == some .gt) = false := by assumption
    go_ret
    exact ⟨ret_f (if_neg (by unfold gtF; rw [show (Ieee.double.order x y == some .gt) = false from h]; decide)).symm, rfl⟩

theorem zmin16 (x y : Nat) (w : World) : Calls Try.prog 16 #[.float .f64 x, .float .f64 y] w fun e w' => e = .returned (.float .f64 (zminF x y)) ∧ w' = w := by
  go_enter Try.func16, Try.ntmps16
  go_wp2
  · have h : (FloatKind.f64.format.order x y == some .lt) = true := by assumption
    go_ret
    exact ⟨ret_f (if_pos h).symm, rfl⟩
  · have h : (FloatKind.f64.format.order x y == some .lt) = false := by assumption
    go_ret
    exact ⟨ret_f (if_neg (by unfold ltF; rw [show (Ieee.double.order x y == some .lt) = false from h]; decide)).symm, rfl⟩

theorem geF_no {x y : Nat} (h : ¬ (Ieee.double.order x y = some .gt ∨ Ieee.double.order x y = some .eq)) : geF x y = false := by
  unfold geF
  cases h' : Ieee.double.order x y with
  | none => rfl
  | some o => cases o <;> simp_all

theorem within19 (x lim : Nat) (w : World) : Calls Try.prog 19 #[.float .f64 x, .float .f64 lim] w fun e w' => e = .returned (.bool (withinF x lim)) ∧ w' = w := by
  go_enter Try.func19, Try.ntmps19
  go_wp2
  · go_ret
    exact ⟨ret_b rfl, rfl⟩
  · have h : ¬ (FloatKind.f64.format.order x (negW lim) = some .gt ∨ FloatKind.f64.format.order x (negW lim) = some .eq) := by assumption
    go_ret
    exact ⟨ret_b (by unfold withinF; rw [geF_no h]; rfl), rfl⟩

/-! ### a slice of float64s that came in -/
/-- nil, or a row that begins at some cell of some block -/
def IsRowF (w : World) (a : Option Addr) (len cap : Nat) (zs : List Nat) : Prop :=
  (a = none ∧ len = 0 ∧ cap = 0 ∧ zs = []) ∨ (∃ x, a = some x ∧ len = 0 ∧ zs = []) ∨
  ∃ b off, a = some ⟨b, off, none⟩ ∧ zs.length = len ∧ (∀ i, i < len → w.cell? ⟨b, off + i, none⟩ = some (.float .f64 (zs.getD i 0))) ∧ b < w.heap.size ∧ W64 zs

theorem IsRowF.below {w w' : World} {a : Option Addr} {len cap : Nat} {zs : List Nat} (h : IsRowF w a len cap zs) (hb : Below w.heap.size w w') : IsRowF w' a len cap zs := by
  rcases h with h | h | ⟨b, off, h1, h2, h3, h4, h5⟩
  · exact Or.inl h
  · exact Or.inr (Or.inl h)
  · refine Or.inr (Or.inr ?_)
    exact ⟨b, off, h1, h2, fun i hi => (hb.cell (p := ⟨b, off + i, none⟩) h4).trans (h3 i hi), Nat.lt_of_lt_of_le h4 hb.size, h5⟩
theorem IsRowF.len_eq {w : World} {a : Option Addr} {len cap : Nat} {zs : List Nat} (h : IsRowF w a len cap zs) : zs.length = len := by
  rcases h with ⟨_, h1, _, h2⟩ | ⟨_, _, h1, h2⟩ | ⟨b, off, h1, h2, _⟩
  · subst h1; subst h2; rfl
  · subst h1; subst h2; rfl
  · exact h2
theorem IsRowF.w64 {w : World} {a : Option Addr} {len cap : Nat} {zs : List Nat} (h : IsRowF w a len cap zs) : W64 zs := by
  rcases h with ⟨_, h1, _, h2⟩ | ⟨_, _, h1, h2⟩ | ⟨b, off, h1, h2, _, _, h⟩
  · subst h2; intro x hx; cases hx
  · subst h2; intro x hx; cases hx
  · exact h

/-- are the first k within lim? -/
def allWithin (zs : List Nat) (lim : Nat) : Nat → Bool
  | 0 => true
  | k + 1 => allWithin zs lim k && withinF (zs.getD k 0) lim
theorem allWithin_get {zs : List Nat} {lim k : Nat} (h : allWithin zs lim k = true) : ∀ i, i < k → withinF (zs.getD i 0) lim = true := by
  induction k with
  | zero => intro i hi; omega
  | succ k ih =>
    intro i hi
    unfold allWithin at h
    rw [Bool.and_eq_true] at h
    by_cases e : i = k
    · subst e; exact h.2
    · exact ih h.1 i (by omega)
theorem allWithin_no {zs : List Nat} {lim k : Nat} (i : Nat) (hi : i < k) (h : withinF (zs.getD i 0) lim = false) : allWithin zs lim k = false := by
  induction k with
  | zero => omega
  | succ k ih =>
    unfold allWithin
    by_cases e : i = k
    · subst e; rw [h]; simp
    · rw [ih (by omega)]; rfl

theorem allWithin10 (a : Option Addr) (len cap k lim : Nat) (zs : List Nat) (w : World) (h : IsRowF w a len cap zs) (hk : k ≤ len) (hl : len ≤ 1048576) :
    Calls Try.prog 10 #[.slice a len cap, .int .i64 k, .float .f64 lim] w fun e w' => e = .returned (.bool (allWithin zs lim k)) ∧ w' = w := by
  rcases h with ⟨rfl, rfl, rfl, rfl⟩ | ⟨x, rfl, rfl, rfl⟩ | ⟨b, off, rfl, h2, h3, _, _⟩
  · obtain rfl : k = 0 := by omega
    go_enter Try.func10, Try.ntmps10
    go_wp2
    refine wp_loop_rounds 1 ?_
    rw [rounds_succ]
    go_wp2
    go_ret
    exact ⟨rfl, rfl⟩
  · obtain rfl : k = 0 := by omega
    go_enter Try.func10, Try.ntmps10
    go_wp2
    refine wp_loop_rounds 1 ?_
    rw [rounds_succ]
    go_wp2
    go_ret
    exact ⟨rfl, rfl⟩
  · have H3 : Hid (∀ i, i < len → w.cell? ⟨b, off + i, none⟩ = some (.float .f64 (zs.getD i 0))) := h3
    clear h3
    go_enter Try.func10, Try.ntmps10
    go_wp2
    go_loop [7] (fun i => ∃ j : Nat, j ≤ k ∧ i = .int .i64 j ∧ allWithin zs lim j = true) (fun i => k - (intOf i).toNat)
    case atStart => exact ⟨0, Nat.zero_le _, rfl, rfl⟩
    case round =>
      obtain ⟨j, hj, rfl, hall⟩ := hrel
      have HA : Hid (allWithin zs lim j = true) := hall
      clear hall
      by_cases hlt : j < k
      · have c1 := H3.out j (by omega)
        obtain ⟨x, hx⟩ : ∃ v, v = zs.getD j 0 := ⟨_, rfl⟩
        rw [← hx] at c1
        have HX : Hid (x = zs.getD j 0) := hx
        clear hx
        have b1 : (j : Int) < (len : Int) := by omega
        go_wp2_with (go_at_call 19; refine (within19 x lim _).mono ?_; rintro e w' ⟨rfl, hw⟩; have hw' := hw.symm; clear hw; subst hw')
        · have h' : (!withinF x lim) = true := by assumption
          have h : withinF x lim = false := by simpa using h'
          go_ret
          exact ⟨ret_b (allWithin_no j hlt (by rw [← HX.out]; exact h)).symm, rfl⟩
        · have h' : (!withinF x lim) = false := by assumption
          have h : withinF x lim = true := by simpa using h'
          go_round
          case rel => exact ⟨j + 1, by omega, by go_num, by unfold allWithin; rw [HA.out, ← HX.out, h]; rfl⟩
          case measure => simp [intOf]; omega
      · obtain rfl : j = k := by omega
        go_wp2
        go_ret
        exact ⟨ret_b HA.out.symm, rfl⟩

theorem clone11_nil (w : World) : Calls Try.prog 11 #[.slice none 0 0] w fun e w' => e = .returned (.slice none 0 0) ∧ w' = w := by
  have hq := fun w => Lib.run_eql_slice_nil (P := Try.prog) w 25 22 none 0 0 0 0 Try.underlying25
  go_enter Try.func11, Try.ntmps11
  go_wp2
  go_ret
  exact ⟨rfl, rfl⟩

theorem clone11_empty (x : Addr) (cap : Nat) (w : World) : Calls Try.prog 11 #[.slice (some x) 0 cap] w fun e w' => e = .returned (.slice (some ⟨w.heap.size, 0, none⟩) 0 0) ∧ FB w' w.heap.size [] ∧ Below w.heap.size w w' := by
  have hq := fun w => Lib.run_eql_slice_nil (P := Try.prog) w 25 22 (some x) 0 cap 0 0 Try.underlying25
  have hmk := make25 0 (by omega)
  simp only [Int.natCast_zero] at hmk
  go_enter Try.func11, Try.ntmps11
  go_wp2
  have hX0 := FB.made w 0
  have hb0 : Below w.heap.size w (w.alloc (.cells (madeCells #[Value.float FloatKind.f64 0] 0) 22)) := (Below.refl _ _).alloc (Nat.le_refl _) _
  have HX0 : Hid (FB (w.alloc (.cells (madeCells #[Value.float FloatKind.f64 0] 0) 22)) w.heap.size (List.replicate 0 0)) := hX0
  have HB0 : Hid (Below w.heap.size w (w.alloc (.cells (madeCells #[Value.float FloatKind.f64 0] 0) 22))) := hb0
  clear hX0 hb0 hmk hq
  refine wp_loop_rounds 1 ?_
  rw [rounds_succ]
  go_wp2
  go_ret
  exact ⟨rfl, HX0.out, HB0.out⟩

theorem clone_end {ys zs : List Nat} {n : Nat} (h1 : ys.length = n) (h2 : zs.length = n) (h : ∀ t, t < n → ys.getD t 0 = zs.getD t 0) : ys = zs := by
  apply List.ext_getElem (by omega)
  intro i hi hj
  have := h i (by omega)
  rw [List.getD_eq_getElem?_getD, List.getD_eq_getElem?_getD, List.getElem?_eq_getElem hi, List.getElem?_eq_getElem hj] at this
  exact this
theorem clone_step {ys zs : List Nat} {j : Nat} (h : ∀ t, t < j → ys.getD t 0 = zs.getD t 0) (hj : j < ys.length) : ∀ t, t < j + 1 → (ys.set j (zs.getD j 0)).getD t 0 = zs.getD t 0 := by
  intro t ht
  by_cases e : t = j
  · subst e
    rw [List.getD_eq_getElem?_getD, List.getElem?_set_self hj]; rfl
  · rw [List.getD_eq_getElem?_getD, List.getElem?_set_ne (by omega), ← List.getD_eq_getElem?_getD]
    exact h t (by omega)

theorem clone11_row (b off len cap : Nat) (zs : List Nat) (w : World) (h2 : zs.length = len) (h3 : ∀ i, i < len → w.cell? ⟨b, off + i, none⟩ = some (.float .f64 (zs.getD i 0))) (hb : b < w.heap.size) (hl : len ≤ 1048576) :
    Calls Try.prog 11 #[.slice (some ⟨b, off, none⟩) len cap] w fun e w' => e = .returned (.slice (some ⟨w.heap.size, 0, none⟩) len len) ∧ FB w' w.heap.size zs ∧ Below w.heap.size w w' := by
  have hq := fun w => Lib.run_eql_slice_nil (P := Try.prog) w 25 22 (some ⟨b, off, none⟩) len cap 0 0 Try.underlying25
  have hmk := make25 len hl
  have H3 : Hid (∀ i, i < len → w.cell? ⟨b, off + i, none⟩ = some (.float .f64 (zs.getD i 0))) := h3
  clear h3
  go_enter Try.func11, Try.ntmps11
  go_wp2
  have hX0 := FB.made w len
  have hb0 : Below w.heap.size w (w.alloc (.cells (madeCells #[Value.float FloatKind.f64 0] len) 22)) := (Below.refl _ _).alloc (Nat.le_refl _) _
  have HX0 : Hid (FB (w.alloc (.cells (madeCells #[Value.float FloatKind.f64 0] len) 22)) w.heap.size (List.replicate len 0)) := hX0
  have HB0 : Hid (Below w.heap.size w (w.alloc (.cells (madeCells #[Value.float FloatKind.f64 0] len) 22))) := hb0
  clear hX0 hb0 hmk hq
  obtain ⟨X, hXe⟩ : ∃ X, X = w.heap.size := ⟨_, rfl⟩
  go_loopw [4] (fun i wr => ∃ (j : Nat) (ys : List Nat), j ≤ len ∧ i = .int .i64 j ∧ FB wr w.heap.size ys ∧ ys.length = len ∧ (∀ t, t < j → ys.getD t 0 = zs.getD t 0) ∧ Below w.heap.size w wr) (fun i _ => len - (intOf i).toNat)
  case atStart => exact ⟨0, _, Nat.zero_le _, rfl, HX0.out, by simp, fun t ht => by omega, HB0.out⟩
  case round =>
    obtain ⟨j, ys, hj, rfl, hF, ly, heq, hbel⟩ := hrel
    have HE : Hid (∀ t, t < j → ys.getD t 0 = zs.getD t 0) := heq
    clear heq HX0 HB0
    by_cases hlt : j < len
    · have c1 := (hbel.cell (p := ⟨b, off + j, none⟩) hb).trans (H3.out j hlt)
      have c2 := hF.cell (show j < ys.length by omega)
      have f2 := hF.frozen j
      generalize ys.getD j 0 = yj at c2
      obtain ⟨x, hx⟩ : ∃ v, v = zs.getD j 0 := ⟨_, rfl⟩
      rw [← hx] at c1
      have HX : Hid (x = zs.getD j 0) := hx
      clear hx hXe
      go_wp2
      go_roundw
      case rel => exact ⟨j + 1, _, by omega, by go_num, hF.set j x, by simpa using ly, by rw [HX.out]; exact clone_step HE.out (by omega), hbel.setCell (Nat.le_refl _) _⟩
      case measure => simp [intOf]; omega
    · obtain rfl : j = len := by omega
      have e := clone_end ly h2 HE.out
      subst e
      clear hXe
      go_wp2
      go_ret
      exact ⟨rfl, hF, hbel⟩

/-- what a clone is: nil of nil, else a row of the call's own -/
def OwnF (B : Nat) (w' : World) (a' : Option Addr) (len : Nat) (zs : List Nat) : Prop :=
  zs.length = len ∧ ((a' = none ∧ len = 0) ∨ ∃ X, a' = some ⟨X, 0, none⟩ ∧ B ≤ X ∧ FB w' X zs)

theorem clone11 (a : Option Addr) (len cap : Nat) (zs : List Nat) (w : World) (h : IsRowF w a len cap zs) (hl : len ≤ 1048576) :
    Calls Try.prog 11 #[.slice a len cap] w fun e w' => ∃ a' c', e = .returned (.slice a' len c') ∧ OwnF w.heap.size w' a' len zs ∧ Below w.heap.size w w' := by
  rcases h with ⟨rfl, rfl, rfl, rfl⟩ | ⟨x, rfl, rfl, rfl⟩ | ⟨b, off, rfl, h2, h3, h4, _⟩
  rotate_left
  · refine (clone11_empty x cap w).mono ?_
    rintro e w' ⟨rfl, hF, hb⟩
    exact ⟨_, _, rfl, ⟨rfl, Or.inr ⟨_, rfl, Nat.le_refl _, hF⟩⟩, hb⟩
  rotate_left
  · refine (clone11_nil w).mono ?_
    rintro e w' ⟨rfl, hw⟩
    subst hw
    exact ⟨none, 0, rfl, ⟨rfl, Or.inl ⟨rfl, rfl⟩⟩, Below.refl _ _⟩
  · refine (clone11_row b off len cap zs w h2 h3 h4 hl).mono ?_
    rintro e w' ⟨rfl, hF, hb⟩
    exact ⟨_, _, rfl, ⟨h2, Or.inr ⟨_, rfl, Nat.le_refl _, hF⟩⟩, hb⟩
end Go.Proofs.Qxb6605993a
