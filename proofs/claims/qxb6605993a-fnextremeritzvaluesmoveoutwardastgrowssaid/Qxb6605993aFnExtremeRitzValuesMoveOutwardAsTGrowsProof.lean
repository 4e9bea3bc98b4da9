/- Statement: FnExtremeRitzValuesMoveOutwardAsTGrows. Frame by the kit's way; the walk and the plain law are ours. -/
import Derived.Test.Qxb6605993aRows
import Derived.Test.Qxb6605993aLaw5
import Derived.Test.Qxb6605993aRowF
import Derived.WalkKit
import Derived.ProofKit
import Derived.OpenShut
import Derived.ShutString
import Derived.ChangeOld
import Derived.Below
namespace Go.Proofs.Qxb6605993a.fnExtremeRitzValuesMoveOutwardAsTGrows
open Go.ChangeShapes Go.WideShapes Go.ChangeAt Go.RowKit
open Go.ChangeMaps (open_string shut_string)
set_option linter.unusedVariables false

theorem own : ownKnob Try.prog.godebug = none := by kernel_rfl
theorem laidOut : laidOutB Try.prog = true := by kernel_rfl

theorem walk (a0 a1 : Option Addr) (l0 c0 l1 c1 : Nat) (z0 z1 : List Nat) (w : World) (r0 : IsRowF w a0 l0 c0 z0) (r1 : IsRowF w a1 l1 c1 z1) (m0 : l0 ≤ maxLen) (m1 : l1 ≤ maxLen) :
    Calls Try.prog 5 #[.slice a0 l0 c0, .slice a1 l1 c1] w fun e w' => e = .returned (.bool true) ∧ Below w.heap.size w w' := by
  by_cases h : 1048576 < l0 + l1
  · exact law5_far a0 a1 l0 c0 l1 c1 w m0 m1 h
  by_cases hbad : 65536 < l0 ∨ 65536 < l1 ∨ l0 < 1 ∨ l1 < l0
  · exact law5_out a0 a1 l0 c0 l1 c1 w (by omega) hbad
  have g0 : l0 ≤ 65536 := by omega
  have g1 : l1 ≤ 65536 := by omega
  have g2 : 1 ≤ l0 := by omega
  have g3 : l0 ≤ l1 := by omega
  by_cases hin : (allWithin z0 4715268809856909312 l0 && allWithin z1 4715268809856909312 l0) = true
  · have hin2 := hin
    rw [Bool.and_eq_true] at hin2
    obtain ⟨e0, e1⟩ := hin2
    obtain ⟨f24, v24⟩ := val_pow (w := 4715268809856909312) 1046 24 (by omega) rfl (by omega)
    have hz0 : ∀ i, i < l0 → Bd (z0.getD i 0) (Fl.p2 24) := fun i hi => within_bd f24 (by omega) v24 (allWithin_get e0 i hi)
    have hz1 : ∀ i, i < l0 → Bd (z1.getD i 0) (Fl.p2 24) := fun i hi => within_bd f24 (by omega) v24 (allWithin_get e1 i hi)
    have H : InpB z0 z1 l0 := ⟨g2, hz0, fun i hi => hz1 i (by omega)⟩
    refine law5_main a0 a1 l0 c0 l1 c1 z0 z1 w r0 r1 g0 g1 g2 g3 e0 e1 H ?_ ?_
    · intro h hi lo he le R
      subst h
      exact fine5a H r0.w64 r1.w64 (hz1 0 (by omega)) R
    · intro h hi lo he le ph pl pe pe' R P
      have Hp := H.pre (n := l0 - 1) (by omega) (by omega)
      exact fine5 H r0.w64 r1.w64 h (high_of H R.ahi) (low_of H R.alo) (high_of Hp P.ahi) (low_of Hp P.alo)
  · exact law5_not a0 a1 l0 c0 l1 c1 z0 z1 w r0 r1 g0 g1 g2 g3 _ _ rfl rfl (by simpa using hin)

set_option maxRecDepth 100000 in
theorem lifted (os : Os) (started : os.Started) (H : Type) (enc : TypeId × Value → H) :
    ReturnsInHanded {} Try.checked os 5 .any (Rows.fnExtremeRitzValuesMoveOutwardAsTGrowsSpec.pre6 enc Try.prog Try.f5 Rows.fnExtremeRitzValuesMoveOutwardAsTGrowsRow.domain false) (Rows.fnExtremeRitzValuesMoveOutwardAsTGrowsSpec.post enc Try.prog Try.f5 false true false false) := by
  refine returnsInHanded_of_change (C := Try.checked) own started (by kernel_rfl) Try.func5
    (ChangeSpec.witness6 (enc := enc) (C := Try.checked) false ⟨#[], #[.slice none 0 0, .slice none 0 0], []⟩ 8 (by kernel_rfl) (by kernel_rfl) (by kernel_rfl) (by kernel_rfl)) ?_
  intro W base args ds gs before hval0 hW hcnd _
  have hval : ∀ (j : Nat) t v, Try.f5.params[j]? = some t → args[j]? = some v → Value.okWide Try.prog W .any base t v := hval0
  have hW' := hW
  obtain ⟨p, q, hA0, hV, rfl, hfz, hnd⟩ := hW
  have hA : DataW.TrodAll enc Try.prog W 0 (fun _ => true) true Try.f5.params.toList args.toList ds p := hA0
  rw [Try.params5] at hA hval
  obtain ⟨v0, vs0, d0, ds0, p0, q0, hargs, rfl, rfl, h0, r0⟩ := trodAll_cons hA
  obtain ⟨v1, vs1, d1, ds1, p1, q1, rfl, rfl, rfl, h1, r1⟩ := trodAll_cons r0
  obtain ⟨rfl, rfl, rfl⟩ := trodAll_nil r1
  obtain rfl : args = #[v0, v1] := by cases args; simp_all
  obtain ⟨rfl, rfl⟩ := trodVars_none hV
  obtain ⟨a0, l0, c0, rfl⟩ := okWide_slice Try.underlying25 (hval 0 25 v0 rfl rfl)
  obtain ⟨a1, l1, c1, rfl⟩ := okWide_slice Try.underlying25 (hval 1 25 v1 rfl rfl)
  have k0 := h0
  have k1 := h1
  have lt0 : ∀ x ∈ p0, x.block < W.heap.size := by obtain ⟨m, hm⟩ := k0; exact DataW.trod_lt m _ _ _ hm
  have lt1 : ∀ x ∈ p1, x.block < W.heap.size := by obtain ⟨m, hm⟩ := k1; exact DataW.trod_lt m _ _ _ hm
  obtain ⟨z0, w0, m0⟩ := open_floats Try.underlying25 Try.underlying22 (by kernel_rfl) h0
  obtain ⟨z1, w1, m1⟩ := open_floats Try.underlying25 Try.underlying22 (by kernel_rfl) h1
  clear hA0 hval0
  refine (walk a0 a1 l0 c0 l1 c1 z0 z1 W w0 w1 m0 m1).mono fun e W' ⟨he, bel⟩ => ?_
  subst he
  exact ⟨_, rfl, _, _, _, [], _, [], hW', trodAll_mk1 (shut_bool Try.underlying4 _), (trodAll_cons_mk (Below.trod laidOut (by kernel_rfl) (of_decide_eq_true (by kernel_rfl)) k0 bel lt0) (trodAll_cons_mk (Below.trod laidOut (by kernel_rfl) (of_decide_eq_true (by kernel_rfl)) k1 bel lt1) trodAll_mk0)), rfl, bel.frame _, fun h => by cases h⟩

theorem over : Rows.fnExtremeRitzValuesMoveOutwardAsTGrowsRow.holds Try.pinned (OpenSpec.ofChange Rows.fnExtremeRitzValuesMoveOutwardAsTGrowsSpec) :=
  OpenClaim.holds_of_wide 5 Try.f5 rfl rfl rfl rfl rfl rfl rfl ⟨rfl, rfl, rfl, rfl, rfl⟩ rfl rfl rfl rfl rfl (by kernel_rfl) Try.func5 (by kernel_rfl)
    (of_decide_eq_true (by kernel_rfl)) (by unfold Func.isWrapper; first | (rw [if_pos (by decide +kernel)]; kernel_rfl) | (rw [if_neg (by decide +kernel)]; exact ⟨rfl, rfl⟩))
    (fun os started H enc _ => lifted os started H enc)

theorem proved : Rows.FnExtremeRitzValuesMoveOutwardAsTGrowsSaid :=
  over
#print axioms proved
end Go.Proofs.Qxb6605993a.fnExtremeRitzValuesMoveOutwardAsTGrows
