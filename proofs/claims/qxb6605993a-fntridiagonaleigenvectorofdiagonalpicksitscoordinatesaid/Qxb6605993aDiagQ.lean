/- The premise that the law computes, plainly. -/
import Derived.Test.Qxb6605993aLaw7M
import Derived.Test.Qxb6605993aDiagP
namespace Go.Proofs.Qxb6605993a
open Ieee Fl

theorem eq_order {x y : Nat} (hx : Fl.Fin x) (hy : Fl.Fin y) : eqF x y = decide (val x = val y) := by
  have ho := order_fin hx hy
  unfold eqF
  by_cases h2 : val x = val y
  · rw [ho.2.1 h2, decide_eq_true h2]; rfl
  · rw [decide_eq_false h2]
    by_cases h : val x < val y
    · rw [ho.1 h]; rfl
    · rw [ho.2.2 (by grind)]; rfl

theorem prem_get {zs : List Nat} {j : Nat} (h : prem zs j = true) : ∀ i, i < j → zeroF (zs.getD i 0) = true := by
  induction j with
  | zero => intro i hi; omega
  | succ j ih =>
    unfold prem at h
    rw [Bool.and_eq_true] at h
    intro i hi
    by_cases e : i = j
    · subst e; exact h.2
    · exact ih h.1 i (by omega)

def Off (al : List Nat) (th i : Nat) : Prop := eqF (al.getD i 0) th = false ∧ ltF (zabsF (pf .sub (al.getD i 0) th)) 4607182418800017408 = false

theorem scan_true {al : List Nat} {th : Nat} {p0 : Bool} (j : Nat) (h : (scanF al th p0 j).1 = true) :
    p0 = true ∧ ((scanF al th p0 j).2 = none → ∀ i, i < j → Off al th i) ∧
    (∀ t, (scanF al th p0 j).2 = some t → t < j ∧ eqF (al.getD t 0) th = true ∧ ∀ i, i < j → i ≠ t → Off al th i) := by
  induction j with
  | zero => exact ⟨h, fun _ i hi => by omega, fun t ht => by cases ht⟩
  | succ j ih =>
    have e1 : (scanF al th p0 (j + 1)).1 = scanP (scanF al th p0 j).1 (scanF al th p0 j).2 (al.getD j 0) th := rfl
    have e2 : (scanF al th p0 (j + 1)).2 = scanK (scanF al th p0 j).2 (al.getD j 0) th j := rfl
    rw [e1] at h
    rw [e2]
    unfold scanP at h
    unfold scanK
    cases he : eqF (al.getD j 0) th
    · rw [he, if_neg (by decide)] at h
      rw [if_neg (by decide)]
      cases hl : ltF (zabsF (pf .sub (al.getD j 0) th)) 4607182418800017408
      · rw [hl, if_neg (by decide)] at h
        obtain ⟨i1, i2, i3⟩ := ih h
        refine ⟨i1, fun hn i hi => ?_, fun t ht => ?_⟩
        · by_cases e : i = j
          · subst e; exact ⟨he, hl⟩
          · exact i2 hn i (by omega)
        · obtain ⟨q1, q2, q3⟩ := i3 t ht
          refine ⟨by omega, q2, fun i hi hit => ?_⟩
          by_cases e : i = j
          · subst e; exact ⟨he, hl⟩
          · exact q3 i (by omega) hit
      · rw [hl, if_pos rfl] at h; cases h
    · rw [he, if_pos rfl] at h
      rw [if_pos rfl]
      cases hk : (scanF al th p0 j).2 with
      | none =>
        rw [hk] at h
        obtain ⟨i1, i2, i3⟩ := ih h
        refine ⟨i1, fun hn => (by cases hn), fun t ht => ?_⟩
        obtain rfl : j = t := by injection ht
        exact ⟨by omega, he, fun i hi hit => i2 hk i (by omega)⟩
      | some t' => rw [hk] at h; cases h

theorem diagonal_of {al of : List Nat} {th m k : Nat} (H : Inp al of th m) (hm : 1 ≤ m) (hmx : m ≤ 4096) (h : scanF al th (prem of (m - 1)) m = (true, some k)) : Diagonal al of th m k := by
  obtain ⟨s1, _, s3⟩ := scan_true (al := al) (th := th) (p0 := prem of (m - 1)) m (by rw [h])
  obtain ⟨t1, t2, t3⟩ := s3 k (by rw [h])
  refine ⟨H, hm, hmx, fun j hj => ?_, t1, ?_, fun i hi hik => ?_⟩
  · have := prem_get s1 j (by omega)
    rw [zero_order (H.of j hj).1] at this
    exact of_decide_eq_true this
  · rw [eq_order (H.al k t1).1 H.th.1] at t2
    exact of_decide_eq_true t2
  · obtain ⟨_, o2⟩ := t3 i hi hik
    have hb := sub_bd H hi
    obtain ⟨f, hv⟩ := zabs_fin hb.1 (pf_lt _ _ _)
    rw [lt_order f fin_one, val_one] at o2
    have := of_decide_eq_false o2
    unfold AbsGe
    grind

theorem pick_word {al of : List Nat} {th m k : Nat} (H : Inp al of th m) (hm : 1 ≤ m) (hmx : m ≤ 4096) (h : scanF al th (prem of (m - 1)) m = (true, some k)) :
    k < m ∧ isUnitF (eigF al of th m) m = true ∧ geF (zabsF ((eigF al of th m).getD k 0)) 4602678819172646912 = true := by
  have D := diagonal_of H hm hmx h
  obtain ⟨p1, p2', p3⟩ := D.pick
  refine ⟨D.kl, p1, ?_⟩
  have h64 : (eigF al of th m).getD k 0 < 18446744073709551616 := by
    have e : eigF al of th m = unitF (solveF al of th m (iterF al of th m 1)) m := rfl
    rw [e, unit_get (by rw [solveF_length]; exact iterF_length al of th m 1) D.kl]
    exact pf_lt _ _ _
  obtain ⟨f, hv⟩ := zabs_fin p2' h64
  obtain ⟨fh, vh⟩ := val_pow (w := 4602678819172646912) 1021 (-1) (by omega) rfl (by omega)
  have hhalf : p2 (-1) = 1 / 2 := by
    have : p2 (-1) * p2 1 = 1 := by rw [← p2_add]; exact p2_zero
    rw [p2_53.2.1] at this; grind
  rw [ge_orderF f fh, vh, hhalf]
  apply decide_eq_true
  unfold AbsGe at p3
  grind
end Go.Proofs.Qxb6605993a
