/- The walks of decisionTolerance and its export. -/
import Derived.Test.Qxb6605993aRows
import Derived.Test.Qxb6605993aTol
import Derived.WalkKit
import Derived.ProofKit
import Derived.OpenShut
import Derived.WalkLawsBesides
import Derived.Laws.FloatArith
namespace Go.Proofs.Qxb6605993a
open Go.ChangeShapes Go.WideShapes Go.ChangeAt Go.RowKit

theorem tol25 (n : Int) (r : Nat) (h : floatBits .mul .f64 4547007122018943789 (floatOfInt .f64 (if 1 > n then 1 else n)) = some r) (w : World) :
    Calls Try.prog 25 #[.int .i64 n] w fun e w' => e = .returned (.float .f64 r) ∧ w' = w := by
  have hm : ∀ w, (binOp .mul 22 (.float .f64 4547007122018943789) (.float .f64 (floatOfInt .f64 (if 1 > n then 1 else n)))).run Try.prog w = .ok (.float .f64 r) w := fun w => run_float_arith w _ _ _ _ _ _ h
  have u3 := Try.underlying3
  have u22 := Try.underlying22
  clear h
  go_enter Try.func25, Try.ntmps25
  go_wp2
  all_goals (go_ret; exact ⟨rfl, rfl⟩)

theorem tol8 (n : Int) (r : Nat) (h : floatBits .mul .f64 4547007122018943789 (floatOfInt .f64 (if 1 > n then 1 else n)) = some r) (w : World) :
    Calls Try.prog 8 #[.int .i64 n] w fun e w' => e = .returned (.float .f64 r) ∧ w' = w := by
  have H : Hid (floatBits .mul .f64 4547007122018943789 (floatOfInt .f64 (if 1 > n then 1 else n)) = some r) := h
  clear h
  go_enter Try.func8, Try.ntmps8
  go_wp2_with (go_at_call 25; refine (tol25 _ _ H.out _).mono ?_; rintro e w' ⟨rfl, rfl⟩)
  go_ret
  exact ⟨rfl, rfl⟩

/-- what the plain law gives for the degree n, in the walk's words -/
theorem tol_facts (n : Int) (h : n ≤ 9223372036854775807) :
    ∃ r, floatBits .mul .f64 4547007122018943789 (floatOfInt .f64 (if 1 > n then 1 else n)) = some r ∧ Fl.IsTol (if 1 > n then 1 else n) r :=
  Fl.tol_ex (if 1 > n then 1 else n) (by split <;> omega) (by split <;> omega)

/-- everything that the law looks at, for a ≤ b -/
theorem law_facts (a b : Int) (h : a ≤ b) (hb : b ≤ 9223372036854775807) :
    ∃ r s z, floatBits .mul .f64 4547007122018943789 (floatOfInt .f64 (if 1 > a then 1 else a)) = some r ∧
      floatBits .mul .f64 4547007122018943789 (floatOfInt .f64 (if 1 > b then 1 else b)) = some s ∧
      floatBits .mul .f64 r 4666723172467343360 = some z ∧
      (FloatKind.f64.format.order z 4607182418709945415 = some .gt ∨ FloatKind.f64.format.order z 4607182418709945415 = some .eq) ∧
      ((FloatKind.f64.format.order r s = some .lt ∧ 1 < b) ∨ (FloatKind.f64.format.order r s = some .eq ∧ (b ≤ 1 ∨ ¬ a < b ∨ 1073741824 < b))) := by
  obtain ⟨r, er, hr⟩ := tol_facts a (by omega)
  obtain ⟨s, es, hs⟩ := tol_facts b hb
  obtain ⟨z, ez, hz, hk⟩ := Fl.tol_floor hr (by split <;> omega) (by split <;> omega)
  refine ⟨r, s, z, er, es, ez, ?_, ?_⟩
  · have ho := Fl.order_fin hz Fl.fin_k
    by_cases h1 : Fl.val 4607182418709945415 < Fl.val z
    · exact Or.inl (ho.2.2 h1)
    · exact Or.inr (ho.2.1 (by grind))
  · have ho := Fl.order_fin hr.1 hs.1
    have hle := Fl.tol_mono hr hs (by split <;> split <;> omega)
    by_cases h1 : Fl.val r < Fl.val s
    · left
      refine ⟨ho.1 h1, ?_⟩
      rcases Int.lt_or_le 1 b with h2 | h2
      · exact h2
      · exfalso
        have e : (if 1 > a then 1 else a) = (if 1 > b then 1 else b) := by split <;> split <;> omega
        rw [e] at hr
        have := Fl.tol_mono hs hr (Int.le_refl _)
        grind
    · right
      refine ⟨ho.2.1 (by grind), ?_⟩
      by_cases h2 : b ≤ 1
      · exact Or.inl h2
      · right
        by_cases h3 : a < b
        · right
          rcases Int.lt_or_le 1073741824 b with h4 | h4
          · exact h4
          · exact absurd (Fl.tol_strict hr hs (by split <;> omega) (by split <;> split <;> omega) (by split <;> omega)) h1
        · exact Or.inl h3

theorem walk_le (a b : Int) (h : a ≤ b) (hb : b ≤ 9223372036854775807) (w : World) :
    Calls Try.prog 3 #[.int .i64 a, .int .i64 b] w fun e w' => e = .returned (.bool true) ∧ w' = w := by
  obtain ⟨r, s, z, er, es, ez, hz, ho⟩ := law_facts a b h hb
  have hm : ∀ w, (binOp .mul 22 (.float .f64 r) (.float .f64 4666723172467343360)).run Try.prog w = .ok (.float .f64 z) w := fun w => run_float_arith w _ _ _ _ _ _ ez
  clear ez
  have Hr : Hid (floatBits .mul .f64 4547007122018943789 (floatOfInt .f64 (if 1 > a then 1 else a)) = some r) := er
  have Hs : Hid (floatBits .mul .f64 4547007122018943789 (floatOfInt .f64 (if 1 > b then 1 else b)) = some s) := es
  clear er es
  have hab : ¬ b < a := by omega
  rcases hz with hz | hz <;> rcases ho with ⟨ho, h1⟩ | ⟨ho, h1⟩
  all_goals
    go_enter Try.func3, Try.ntmps3
    go_wp2_with fail
    refine (tol8 _ _ Hr.out _).mono ?_
    rintro e w' ⟨rfl, rfl⟩
    go_wp2_with fail
    refine (tol8 _ _ Hs.out _).mono ?_
    rintro e w' ⟨rfl, rfl⟩
    go_wp2
    all_goals (go_ret; exact ⟨rfl, rfl⟩)

theorem walk_gt (a b : Int) (h : b < a) (ha : a ≤ 9223372036854775807) (w : World) :
    Calls Try.prog 3 #[.int .i64 a, .int .i64 b] w fun e w' => e = .returned (.bool true) ∧ w' = w := by
  obtain ⟨r, s, z, er, es, ez, hz, ho⟩ := law_facts b a (by omega) ha
  have hm : ∀ w, (binOp .mul 22 (.float .f64 r) (.float .f64 4666723172467343360)).run Try.prog w = .ok (.float .f64 z) w := fun w => run_float_arith w _ _ _ _ _ _ ez
  clear ez
  have Hr : Hid (floatBits .mul .f64 4547007122018943789 (floatOfInt .f64 (if 1 > b then 1 else b)) = some r) := er
  have Hs : Hid (floatBits .mul .f64 4547007122018943789 (floatOfInt .f64 (if 1 > a then 1 else a)) = some s) := es
  clear er es
  rcases hz with hz | hz <;> rcases ho with ⟨ho, h1⟩ | ⟨ho, h1⟩
  all_goals
    go_enter Try.func3, Try.ntmps3
    go_wp2_with fail
    refine (tol8 _ _ Hr.out _).mono ?_
    rintro e w' ⟨rfl, rfl⟩
    go_wp2_with fail
    refine (tol8 _ _ Hs.out _).mono ?_
    rintro e w' ⟨rfl, rfl⟩
    go_wp2
    all_goals (go_ret; exact ⟨rfl, rfl⟩)
end Go.Proofs.Qxb6605993a
