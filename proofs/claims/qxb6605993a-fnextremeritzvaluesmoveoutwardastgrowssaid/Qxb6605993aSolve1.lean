/- The walk of solveShifted at one row. -/
import Derived.Test.Qxb6605993aSolve
namespace Go.Proofs.Qxb6605993a
open Go.ChangeShapes Go.WideShapes Go.ChangeAt Go.RowKit
attribute [local go_sem] run_fadd run_fsub run_fmul run_fquo run_store_float
set_option maxRecDepth 100000 in
set_option maxHeartbeats 4000000 in
theorem solve32b (A Bb ca lo co cb th : Nat) (po : Option Addr) (al of bs : List Nat) (w : World) (hA : FB w A al) (hB : FB w Bb bs) (nA : A ≠ Bb)
    (la : 1 ≤ al.length) (lb : bs.length = 1) (hth : Fl.Fin th) (th64 : th < 18446744073709551616) (h64 : W64 bs) :
    Calls Try.prog 32 #[.slice (some ⟨A, 0, none⟩) 1 ca, .slice po lo co, .float .f64 th, .slice (some ⟨Bb, 0, none⟩) 1 cb] w fun e w' =>
      ∃ bs', e = .returned (.tuple #[]) ∧ FB w' Bb bs' ∧ bs'.map cn = solveF al of th 1 (bs.map cn) ∧ W64 bs' ∧ w.grownBy w' (some Bb) := by
  have hmk : ∀ w : World, (Instr.makeSlice 25 (.int .i64 1) (.int .i64 1)).run Try.prog w = .ok (.slice (some ⟨w.heap.size, 0, none⟩) 1 1) (w.alloc (.cells (madeCells #[.float .f64 0] 1) 22)) := make25 1 (by omega)
  have hmax := max1 th hth
  go_enter Try.func32, Try.ntmps32
  go_upto_region 2 with (go_at_call 29; refine (abs29 _ th64 _).mono ?_; rintro e w' ⟨rfl, hw⟩; have hw' := hw.symm; clear hw; subst hw')
  go_cut [9, 10, 11, 12] (fun s9 s10 s11 s12 wc => ∃ ti U0 U1 U2, s9 = .float .f64 ti ∧ cn ti = tinyF th ∧ ti < 18446744073709551616 ∧ s10 = .slice (some ⟨U0, 0, none⟩) 1 1 ∧ s11 = .slice (some ⟨U1, 0, none⟩) 1 1 ∧ s12 = .slice (some ⟨U2, 0, none⟩) 1 1 ∧ Mem w wc A A Bb U0 U1 U2 al al bs (List.replicate 1 0) (List.replicate 1 0) (List.replicate 1 0))
  case first =>
    go_region
    all_goals go_wp2
    all_goals go_meet
    all_goals (case rel => exact ⟨_, _, _, _, rfl, cn_fv _ _ _ _, fv_lt _ _ _ _, rfl, rfl, rfl, (Mem.init (m := 1) hA hA hB nA nA _ _ _ (by omega)).drewN _⟩)
  case rest =>
    obtain ⟨ti, U0, U1, U2, rfl, hti, hti64, rfl, rfl, rfl, hM⟩ := hcut
    have HT : Hid (cn ti = tinyF th) := hti
    clear hti hmk hmax
    obtain ⟨x0, hx0⟩ : ∃ v, v = al.getD 0 0 := ⟨_, rfl⟩
    have c1 := hM.a.cell (k := 0) (by omega)
    rw [← hx0] at c1
    have HX0 : Hid (x0 = al.getD 0 0) := hx0
    clear hx0
    go_wp2
    refine wp_loop_rounds 1 ?_
    rw [rounds_succ]
    clear c1
    go_upto_if 140 with fail
    go_cut [13] (fun s13 wx => ∃ p, s13 = .float .f64 p ∧ cn p = (if zeroF (cn (fv .sub x0 th wc)) then tinyF th else cn (fv .sub x0 th wc)) ∧ p < 18446744073709551616 ∧ wx = wc.drewN (dn .sub x0 th))
    case first =>
      go_wp2
      · have hz : (FloatKind.f64.format.order (fv .sub x0 th wc) 0 == some .eq) = true := by assumption
        go_meet
        case rel => exact ⟨_, rfl, by rw [zeroF_cn]; exact HT.out.trans (if_pos hz).symm, hti64, rfl⟩
      · have hz : (FloatKind.f64.format.order (fv .sub x0 th wc) 0 == some .eq) = false := by assumption
        go_meet
        case rel => exact ⟨_, rfl, by rw [zeroF_cn]; exact (if_neg (by unfold zeroF; rw [show (Ieee.double.order (fv .sub x0 th wc) 0 == some .eq) = false from hz]; decide)).symm, fv_lt _ _ _ _, rfl⟩
    case rest =>
      obtain ⟨p, rfl, hp, hp64, rfl⟩ := hcut
      have HP := back_start (al := al) (of := of) (th := th) (m := 1) (start_st1 (bs := bs) HX0.out (by omega) wc) hp rfl
      have HPH : Hid (solveF al of th 1 (bs.map cn) = backs (((List.replicate 1 0).set (1 - 1) p).map cn) ((List.replicate 1 0).map cn) ((List.replicate 1 0).map cn) 1 (bs.map cn) 1) := HP
      clear HP hp
      have c6 := hM.p.cell (k := 0) (by decide)
      have f6 := hM.p.frozen 0
      have hM5 := (hM.drewN (dn .sub x0 th)).setP 0 p
      go_wp2
      clear c6 f6
      have c6 : ((wc.drewN (dn .sub x0 th)).setCell ⟨U0, 0, none⟩ (Value.float FloatKind.f64 p)).cell? ⟨U0, 0, none⟩ = some (.float .f64 p) := hM5.p.cell (k := 0) (by simp)
      have c7 := hM5.b.cell (k := 0) (by omega)
      have f7 := hM5.b.frozen 0
      obtain ⟨v0, hv0⟩ : ∃ v, v = bs.getD 0 0 := ⟨_, rfl⟩
      rw [← hv0] at c7
      have HV0 : Hid (v0 = bs.getD 0 0) := hv0
      clear hv0
      generalize (wc.drewN (dn .sub x0 th)).setCell ⟨U0, 0, none⟩ (Value.float FloatKind.f64 p) = wz at *
      refine wp_loop_rounds 2 ?_
      rw [rounds_succ]
      go_wp2
      rw [rounds_succ]
      go_wp2
      go_end0
      refine ⟨_, rfl, ((hM5.drewN _).setB 0 _).b, ?_, h64.set 0 (fv_lt _ _ _ _), ((hM5.drewN _).setB 0 _).g⟩
      rw [HPH.out]
      exact back_step (m := 1) (i := 0) (s1 := v0) (u0 := (List.replicate 1 0).set (1 - 1) p) (u1 := List.replicate 1 0) (u2 := List.replicate 1 0) rfl HV0.out rfl rfl rfl rfl rfl (if_neg (by omega)).symm (if_neg (by omega)).symm _ rfl rfl rfl (by omega)
end Go.Proofs.Qxb6605993a
