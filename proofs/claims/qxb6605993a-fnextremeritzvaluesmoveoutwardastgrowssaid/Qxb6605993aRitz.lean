/- The walk of extremeRitzValues. -/
import Derived.Test.Qxb6605993aRB
import Derived.Deep.RegionWith
import Derived.RegionTactic
import Derived.BigRegion
import Derived.Deep.DeepCutAuto
namespace Go.Proofs.Qxb6605993a
open Go.ChangeShapes Go.WideShapes Go.ChangeAt Go.RowKit
attribute [local go_sem] run_fadd run_fsub run_fmul run_fquo run_store_float unary_fneg

/-- what the four numbers are -/
structure Ritz (al be : List Nat) (m hi lo he le : Nat) : Prop where
  ahi : Answer al be m (m - 1) hi
  alo : Answer al be m 0 lo
  ehi : cn he = pf .mul (be.getD (m - 1) 0) (absF ((eigF al be hi m).getD (m - 1) 0))
  elo : cn le = pf .mul (be.getD (m - 1) 0) (absF ((eigF al be lo m).getD (m - 1) 0))

theorem RM.drew {w wc : World} {A O : Nat} {al be vs : List Nat} (h : RM w wc A O al be vs) : RM w wc.drew A O al be vs := ⟨h.a.drew, h.o.drew, h.r0, h.r1, h.b.drew, h.sz⟩
theorem wrap64 (n : Nat) (h : n ≤ 1048576) : IntKind.i64.wrap (n : Int) = (n : Int) := by
  simp [IntKind.wrap, IntKind.signed, IntKind.bits]
  omega

theorem err_eq {b k : Nat} {xs e : List Nat} (w : World) (h : xs.map cn = e) : cn (fv .mul b (absF (xs.getD k 0)) w) = pf .mul b (absF (e.getD k 0)) := by
  rw [cn_fv, ← h, map_cn_getD, absF_cn, ← pf_cn, ← pf_cn .mul b (cn _), cn_cn]

set_option maxHeartbeats 2000000 in
theorem ritz26 (A O m ca lb co : Nat) (al be : List Nat) (w : World) (hA : FB w A al) (hO : FB w O be) (lbe : lb ≤ be.length) (hlb : m ≤ lb) (hco : lb ≤ co)
    (hmx : m ≤ 1048576) (la : m ≤ al.length) (H : InpB al be m) (o64 : W64 be) :
    Calls Try.prog 26 #[.slice (some ⟨A, 0, none⟩) m ca, .slice (some ⟨O, 0, none⟩) lb co] w fun e w' => ∃ hi lo he le, e = .returned (.agg #[.float .f64 hi, .float .f64 lo, .float .f64 he, .float .f64 le]) ∧ Ritz al be m hi lo he le ∧ Below w.heap.size w w' := by
  have m1 := H.m1
  have hk : ((m : Int) - 1) = ((m - 1 : Nat) : Int) := by omega
  have b1 : (0 : Int) ≤ (m : Int) - 1 := by omega
  have b2 : (m : Int) - 1 ≤ (co : Int) := by omega
  have HM := RM.start hA hO
  go_enter Try.func26, Try.ntmps26
  go_wp2_with fail
  generalize ((w.alloc (.cells #[.float .f64 0, .float .f64 0, .float .f64 0, .float .f64 0] 39)).alloc (.cells #[.float .f64 0, .float .f64 0, .float .f64 0, .float .f64 0] 39)) = W0 at *
  refine (value28 A O m ca (m - 1) co (m - 1) _ al be W0 HM.a (fun _ => ⟨rfl, HM.o, by omega, by omega⟩) rfl hmx la H o64).mono ?_
  rintro e w' ⟨hi, n1, rfl, ahi, rfl⟩
  have HM1 := HM.drewN n1
  generalize W0.drewN n1 = W1 at *
  have f0 := HM1.r1.frozen 0
  have c0 := HM1.r1.cell (show 0 < [0, 0, 0, 0].length by decide)
  have HAH : Hid (Answer al be m (m - 1) hi) := ahi
  clear ahi
  go_wp2_with fail
  have HM2 := HM1.set hA.lt hO.lt 0 hi
  generalize W1.setCell ⟨w.heap.size + 1, 0, none⟩ (.float .f64 hi) = W2 at *
  refine (value28 A O m ca (m - 1) co 0 _ al be W2 HM2.a (fun _ => ⟨rfl, HM2.o, by omega, by omega⟩) rfl hmx la H o64).mono ?_
  rintro e w' ⟨lo, n2, rfl, alo, rfl⟩
  have HM3 := HM2.drewN n2
  generalize W2.drewN n2 = W3 at *
  have HAL : Hid (Answer al be m 0 lo) := alo
  clear alo f0 c0 HM HM1 HM2
  have f1 := HM3.r1.frozen 1
  have c1 := HM3.r1.cell (show 1 < ([0, 0, 0, 0].set 0 hi).length from (by simp))
  go_wp2_with fail
  have HM4 := HM3.set hA.lt hO.lt 1 lo
  generalize W3.setCell ⟨w.heap.size + 1, 1, none⟩ (.float .f64 lo) = W4 at *
  clear f1 c1 HM3
  obtain ⟨bm, hbm⟩ : ∃ v, v = be.getD (m - 1) 0 := ⟨_, rfl⟩
  have HBM : Hid (bm = be.getD (m - 1) 0) := hbm
  clear hbm
  have fhi : Fl.Fin hi := by
    obtain ⟨l', h', r', _, rfl⟩ := HAH.out
    exact (mids_fin (reach_inv H r')).2.1
  have flo : Fl.Fin lo := by
    obtain ⟨l', h', r', _, rfl⟩ := HAL.out
    exact (mids_fin (reach_inv H r')).2.1
  have h64 : hi < 18446744073709551616 := by
    obtain ⟨l', h', r', _, rfl⟩ := HAH.out
    exact pf_lt _ _ _
  have l64 : lo < 18446744073709551616 := by
    obtain ⟨l', h', r', _, rfl⟩ := HAL.out
    exact pf_lt _ _ _
  have ho : ∀ j, j + 1 < m → Fl.Fin (be.getD j 0) := fun j hj => (H.of j hj).1
  have b3 : ((m - 1 : Nat) : Int) < (lb : Int) := by omega
  have b4 : ((m - 1 : Nat) : Int) < (m : Int) := by omega
  have b5 : (0 : Int) ≤ ((m - 1 : Nat) : Int) := by omega
  have hwr : IntKind.i64.wrap ((m - 1 : Nat) : Int) = ((m - 1 : Nat) : Int) := wrap64 _ (by omega)
  clear b1 b2
  go_cut [] (fun wc => ∃ he, cn he = pf .mul bm (absF ((eigF al be hi m).getD (m - 1) 0)) ∧ he < 18446744073709551616 ∧ RM w wc A O al be ((([0, 0, 0, 0].set 0 hi).set 1 lo).set 2 he))
  case first =>
    have cb := HM4.o.cell (show m - 1 < be.length by omega)
    rw [← HBM.out] at cb
    have ch := HM4.r1.cell (k := 0) (by simp)
    have HM4' : Hid (RM w W4 A O al be (([0, 0, 0, 0].set 0 hi).set 1 lo)) := HM4
    clear HM4
    go_region_with (first
      | (go_at_call 27
         refine (eig27 A O m ca (m - 1) co hi _ al be _ HM4'.out.drew.a (fun _ => ⟨rfl, HM4'.out.drew.o, by omega, by omega⟩) m1 hmx la fhi h64 ho o64).mono ?_
         rintro e w' ⟨X, xs, rfl, hX1, hX, hxs, hx64, hb⟩
         have HM5 := HM4'.out.drew.below hb
         have HXX : Hid (FB w' X xs ∧ W64 xs ∧ xs.map cn = eigF al be hi m) := ⟨hX, hx64, hxs⟩
         have lx : xs.length = m := by
           have := congrArg List.length hxs
           rw [List.length_map] at this
           rw [this]; exact iterF_length _ _ _ _ _
         have cb' := HM5.o.cell (show m - 1 < be.length by omega)
         rw [← HBM.out] at cb'
         have cx := hX.cell (show m - 1 < xs.length by omega)
         have f2 := HM5.r1.frozen 2
         have c2 := HM5.r1.cell (k := 2) (by simp)
         have HM5' : Hid (RM w w' A O al be (([0, 0, 0, 0].set 0 hi).set 1 lo)) := HM5
         have x64 := hx64.get (m - 1)
         clear HM5 hb hxs hX hx64 hX1)
      | (go_at_call 29
         refine (abs29 _ (by assumption) _).mono ?_
         rintro e w' ⟨rfl, hw⟩
         have hw' := hw.symm
         clear hw
         subst hw'))
    all_goals go_wp2
    all_goals go_meet
    all_goals (case rel => exact ⟨_, err_eq _ HXX.out.2.2, fv_lt _ _ _ _, (HM5'.out.drewN _).set hA.lt hO.lt 2 _⟩)
  case rest =>
    obtain ⟨he, hhe, he64, HM6⟩ := hcut
    have HHE : Hid (cn he = pf .mul bm (absF ((eigF al be hi m).getD (m - 1) 0))) := hhe
    clear hhe HM4
    go_wp2_with fail
    go_cut [] (fun wc => ∃ le, cn le = pf .mul bm (absF ((eigF al be lo m).getD (m - 1) 0)) ∧ le < 18446744073709551616 ∧ RM w wc A O al be (((([0, 0, 0, 0].set 0 hi).set 1 lo).set 2 he).set 3 le))
    case first =>
      have cb := HM6.o.cell (show m - 1 < be.length by omega)
      rw [← HBM.out] at cb
      have ch := HM6.r1.cell (k := 1) (by simp)
      have HM6' : Hid (RM w _ A O al be ((([0, 0, 0, 0].set 0 hi).set 1 lo).set 2 he)) := HM6
      clear HM6
      go_region_with (first
        | (go_at_call 27
           refine (eig27 A O m ca (m - 1) co lo _ al be _ HM6'.out.drew.a (fun _ => ⟨rfl, HM6'.out.drew.o, by omega, by omega⟩) m1 hmx la flo l64 ho o64).mono ?_
           rintro e w' ⟨X, xs, rfl, hX1, hX, hxs, hx64, hb⟩
           have HM5 := HM6'.out.drew.below hb
           have HXX : Hid (FB w' X xs ∧ W64 xs ∧ xs.map cn = eigF al be lo m) := ⟨hX, hx64, hxs⟩
           have lx : xs.length = m := by
             have := congrArg List.length hxs
             rw [List.length_map] at this
             rw [this]; exact iterF_length _ _ _ _ _
           have cb' := HM5.o.cell (show m - 1 < be.length by omega)
           rw [← HBM.out] at cb'
           have cx := hX.cell (show m - 1 < xs.length by omega)
           have f2 := HM5.r1.frozen 3
           have c2 := HM5.r1.cell (k := 3) (by simp)
           have HM5' : Hid (RM w w' A O al be ((([0, 0, 0, 0].set 0 hi).set 1 lo).set 2 he)) := HM5
           have x64 := hx64.get (m - 1)
           clear HM5 hb hxs hX hx64 hX1)
        | (go_at_call 29
           refine (abs29 _ (by assumption) _).mono ?_
           rintro e w' ⟨rfl, hw⟩
           have hw' := hw.symm
           clear hw
           subst hw'))
      all_goals go_wp2
      all_goals go_meet
      all_goals (case rel => exact ⟨_, err_eq _ HXX.out.2.2, fv_lt _ _ _ _, (HM5'.out.drewN _).set hA.lt hO.lt 3 _⟩)

    case rest =>
      obtain ⟨le, hle, le64, HM7⟩ := hcut
      have HLE : Hid (cn le = pf .mul bm (absF ((eigF al be lo m).getD (m - 1) 0))) := hle
      clear hle HM6
      have r0 : wc.cell? ⟨w.heap.size + 1, 0, none⟩ = some (.float .f64 hi) := HM7.r1.cell (k := 0) (by simp)
      have r1 : wc.cell? ⟨w.heap.size + 1, 1, none⟩ = some (.float .f64 lo) := HM7.r1.cell (k := 1) (by simp)
      have r2 : wc.cell? ⟨w.heap.size + 1, 2, none⟩ = some (.float .f64 he) := HM7.r1.cell (k := 2) (by simp)
      have r3 : wc.cell? ⟨w.heap.size + 1, 3, none⟩ = some (.float .f64 le) := HM7.r1.cell (k := 3) (by simp)
      have q0 : wc.cell? ⟨w.heap.size, 0, none⟩ = some (.float .f64 0) := HM7.r0.cell (k := 0) (by simp)
      have q1 : wc.cell? ⟨w.heap.size, 1, none⟩ = some (.float .f64 0) := HM7.r0.cell (k := 1) (by simp)
      have q2 : wc.cell? ⟨w.heap.size, 2, none⟩ = some (.float .f64 0) := HM7.r0.cell (k := 2) (by simp)
      have q3 : wc.cell? ⟨w.heap.size, 3, none⟩ = some (.float .f64 0) := HM7.r0.cell (k := 3) (by simp)
      have f0 := HM7.r0.frozen 0
      have f1 := HM7.r0.frozen 1
      have f2 := HM7.r0.frozen 2
      have f3 := HM7.r0.frozen 3
      have HM8 : Hid (RM w wc A O al be (((([0, 0, 0, 0].set 0 hi).set 1 lo).set 2 he).set 3 le)) := HM7
      clear HM7
      go_wp2
      have HF := (((HM8.out.r0.set 0 hi).set 1 lo).set 2 he).set 3 le
      have HB : Below w.heap.size w ((((wc.setCell ⟨w.heap.size, 0, none⟩ (.float .f64 hi)).setCell ⟨w.heap.size, 1, none⟩ (.float .f64 lo)).setCell ⟨w.heap.size, 2, none⟩ (.float .f64 he)).setCell ⟨w.heap.size, 3, none⟩ (.float .f64 le)) :=
        (((HM8.out.b.setCell (Nat.le_refl _) _).setCell (Nat.le_refl _) _).setCell (Nat.le_refl _) _).setCell (Nat.le_refl _) _
      generalize ((((wc.setCell ⟨w.heap.size, 0, none⟩ (.float .f64 hi)).setCell ⟨w.heap.size, 1, none⟩ (.float .f64 lo)).setCell ⟨w.heap.size, 2, none⟩ (.float .f64 he)).setCell ⟨w.heap.size, 3, none⟩ (.float .f64 le)) = wf at *
      clear r0 r1 r2 r3 q0 q1 q2 q3 f0 f1 f2 f3
      have r0 : wf.cell? ⟨w.heap.size, 0, none⟩ = some (.float .f64 hi) := HF.cell (k := 0) (by simp)
      have r1 : wf.cell? ⟨w.heap.size, 1, none⟩ = some (.float .f64 lo) := HF.cell (k := 1) (by simp)
      have r2 : wf.cell? ⟨w.heap.size, 2, none⟩ = some (.float .f64 he) := HF.cell (k := 2) (by simp)
      have r3 : wf.cell? ⟨w.heap.size, 3, none⟩ = some (.float .f64 le) := HF.cell (k := 3) (by simp)
      refine bodyPost_ret (v := .agg #[.float .f64 hi, .float .f64 lo, .float .f64 he, .float .f64 le]) ?_ rfl ?_
      · simp [results, Try.results26, go_sem, r0, r1, r2, r3]
      exact ⟨hi, lo, he, le, rfl, ⟨HAH.out, HAL.out, by rw [HHE.out, HBM.out], by rw [HLE.out, HBM.out]⟩, HB⟩
end Go.Proofs.Qxb6605993a
