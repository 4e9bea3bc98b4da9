/- The walk of solveShifted. -/
import Derived.Test.Qxb6605993aSolveM
import Derived.RegionTactic
import Derived.BigRegion
import Derived.Deep.DeepCutAuto
import Derived.Deep.QuietTactic
import Derived.BigQuiet
namespace Go.Proofs.Qxb6605993a
open Go.ChangeShapes Go.WideShapes Go.ChangeAt Go.RowKit
attribute [local go_sem] run_fadd run_fsub run_fmul run_fquo run_store_float

theorem info22 : (Try.prog.info? 22).map (fun i => (i.zero, i.size, i.bytes)) = some (some (.float .f64 0), 1, 8) := by kernel_rfl

/-- make([]float64, n) -/
theorem make25 (n : Nat) (hn : n ≤ 1048576) (w : World) : (Instr.makeSlice 25 (.int .i64 n) (.int .i64 n)).run Try.prog w = .ok (.slice (some ⟨w.heap.size, 0, none⟩) n n) (w.alloc (.cells (madeCells #[.float .f64 0] n) 22)) := by
  obtain ⟨i0, hi, hz0, hz1, hz2⟩ := info_parts info22
  have := run_make (P := Try.prog) w 25 22 i0 (.float .f64 0) Try.underlying25 hi hz0 .i64 .i64 n n (by omega) (by omega) (by rw [hz2]; omega) (by omega)
  rw [hz1] at this
  simpa [Value.cells] using this

theorem fin_absF {x : Nat} (h : Fl.Fin x) : Fl.Fin (absF x) := by
  unfold Fl.Fin Fl.rung absF at *
  rw [Nat.mod_mod]; exact h
theorem fin_one : Fl.Fin 4607182418800017408 := by unfold Fl.Fin Fl.rung; decide

/-- the order turned round -/
theorem order_flip {x y : Nat} (hx : Fl.Fin x) (hy : Fl.Fin y) :
    (Ieee.double.order x y = some .lt ∧ Ieee.double.order y x = some .gt) ∨ (Ieee.double.order x y = some .eq ∧ Ieee.double.order y x = some .eq) ∨ (Ieee.double.order x y = some .gt ∧ Ieee.double.order y x = some .lt) := by
  have h1 := Fl.order_fin hx hy
  have h2 := Fl.order_fin hy hx
  by_cases h : Fl.val x < Fl.val y
  · exact Or.inl ⟨h1.1 h, h2.2.2 h⟩
  · by_cases h' : Fl.val y < Fl.val x
    · exact Or.inr (Or.inr ⟨h1.2.2 h', h2.1 h'⟩)
    · have e : Fl.val x = Fl.val y := by grind
      exact Or.inr (Or.inl ⟨h1.2.1 e, h2.2.1 e.symm⟩)

/-- max(1, |theta|) -/
theorem max1 (th : Nat) (h : Fl.Fin th) (ts : Array TypeId) (t : TypeId) (w : World) :
    (Builtin.max_ ts t #[.float .f64 4607182418800017408, .float .f64 (absF th)]).run Try.prog w = .ok (.float .f64 (mx1 th)) w := by
  unfold mx1
  have hneg : (FloatKind.f64.decode 4607182418800017408).neg = false := by decide
  rcases order_flip fin_one (fin_absF h) with ⟨h1, h2⟩ | ⟨h1, h2⟩ | ⟨h1, h2⟩
  · have h1' : FloatKind.f64.format.order 4607182418800017408 (absF th) = some .lt := h1
    simp [Builtin.max_, Builtin.max2, h1', gtF, h2]
  · have h1' : FloatKind.f64.format.order 4607182418800017408 (absF th) = some .eq := h1
    simp [Builtin.max_, Builtin.max2, h1', gtF, h2, hneg]
  · have h1' : FloatKind.f64.format.order 4607182418800017408 (absF th) = some .gt := h1
    simp [Builtin.max_, Builtin.max2, h1', gtF, h2]

set_option maxRecDepth 100000 in
set_option maxHeartbeats 1000000 in
theorem solve32a (A O Bb m ca lo co cb th : Nat) (al of bs : List Nat) (w : World) (hA : FB w A al) (hO : FB w O of) (hB : FB w Bb bs) (nA : A ≠ Bb) (nO : O ≠ Bb)
    (hm : 2 ≤ m) (hmx : m ≤ 1048576) (la : m ≤ al.length) (lo1 : m ≤ lo + 1) (lo2 : lo ≤ of.length) (lb : bs.length = m) (hth : Fl.Fin th) (th64 : th < 18446744073709551616) (h64 : W64 bs) (ho : ∀ j, j + 1 < m → Fl.Fin (of.getD j 0)) (o64 : W64 of) :
    Calls Try.prog 32 #[.slice (some ⟨A, 0, none⟩) m ca, .slice (some ⟨O, 0, none⟩) lo co, .float .f64 th, .slice (some ⟨Bb, 0, none⟩) m cb] w fun e w' =>
      ∃ bs', e = .returned (.tuple #[]) ∧ FB w' Bb bs' ∧ bs'.map cn = solveF al of th m (bs.map cn) ∧ W64 bs' ∧ w.grownBy w' (some Bb) := by
  have hmk := make25 m hmx
  have hmax := max1 th hth
  go_enter Try.func32, Try.ntmps32
  go_upto_region 2 with (go_at_call 29; refine (abs29 _ th64 _).mono ?_; rintro e w' ⟨rfl, hw⟩; have hw' := hw.symm; clear hw; subst hw')
  go_cut [9, 10, 11, 12] (fun s9 s10 s11 s12 wc => ∃ ti U0 U1 U2, s9 = .float .f64 ti ∧ cn ti = tinyF th ∧ ti < 18446744073709551616 ∧ s10 = .slice (some ⟨U0, 0, none⟩) m m ∧ s11 = .slice (some ⟨U1, 0, none⟩) m m ∧ s12 = .slice (some ⟨U2, 0, none⟩) m m ∧ Mem w wc A O Bb U0 U1 U2 al of bs (List.replicate m 0) (List.replicate m 0) (List.replicate m 0))
  case first => as_aux_lemma =>
    go_region
    all_goals go_wp2
    all_goals go_meet
    all_goals (case rel => exact ⟨_, _, _, _, rfl, cn_fv _ _ _ _, fv_lt _ _ _ _, rfl, rfl, rfl, (Mem.init hA hO hB nA nO _ _ _ (by omega)).drewN _⟩)
  case rest => as_aux_lemma =>
    obtain ⟨ti, U0, U1, U2, rfl, hti, hti64, rfl, rfl, rfl, hM⟩ := hcut
    have HT : Hid (cn ti = tinyF th) := hti
    clear hti hmk hmax
    obtain ⟨x0, hx0⟩ : ∃ v, v = al.getD 0 0 := ⟨_, rfl⟩
    obtain ⟨y0, hy0⟩ : ∃ v, v = of.getD 0 0 := ⟨_, rfl⟩
    have c1 := hM.a.cell (k := 0) (by omega)
    have c2 := hM.o.cell (k := 0) (by omega)
    rw [← hx0] at c1
    rw [← hy0] at c2
    have y0f : Fl.Fin y0 := by rw [hy0]; exact ho 0 (by omega)
    have HX0 : Hid (x0 = al.getD 0 0) := hx0
    have HY0 : Hid (y0 = of.getD 0 0) := hy0
    clear hx0 hy0
    have g1 : (0 : Int) < (m : Int) := by omega
    have g2 : (0 : Int) < (lo : Int) := by omega
    have g3 : (1 : Int) < (m : Int) := by omega
    go_wp2
    go_loopw [13, 14, 15, 16] (fun s13 s14 s15 s16 wr => ∃ (k d0 d1 d2 : Nat) (bs' u0 u1 u2 : List Nat), k ≤ m - 1 ∧ s16 = .int .i64 k ∧ s13 = .float .f64 d0 ∧ s14 = .float .f64 d1 ∧ s15 = .float .f64 d2 ∧ Mem w wr A O Bb U0 U1 U2 al of bs' u0 u1 u2 ∧ d0 < 18446744073709551616 ∧ W64 bs' ∧
      St.mk (cn d0) (cn d1) (cn d2) (bs'.map cn) (u0.map cn) (u1.map cn) (u2.map cn) = rounds al of th (tinyF th) m (start al of th m (bs.map cn)) k) (fun _ _ _ s16 _ => m - (intOf s16).toNat)
    case atStart => exact ⟨0, _, _, _, bs, _, _, _, by omega, rfl, rfl, rfl, rfl, hM.drewN _, fv_lt _ _ _ _, h64, start_st HX0.out HY0.out (by omega) y0f _⟩
    case round => as_aux_lemma =>
      obtain ⟨k, d0, d1, d2, bs', u0, u1, u2, hk, rfl, rfl, rfl, rfl, hMr, hd0, h64', hst⟩ := hrel
      have HS : Hid (St.mk (cn d0) (cn d1) (cn d2) (bs'.map cn) (u0.map cn) (u1.map cn) (u2.map cn) = rounds al of th (tinyF th) m (start al of th m (bs.map cn)) k) := hst
      clear hst c1 c2 g1 g2 g3 hM
      by_cases hlt : k < m - 1
      · obtain ⟨ln, l0, l1, l2⟩ := lens_of HS.out
        obtain ⟨y, hy⟩ : ∃ v, v = of.getD k 0 := ⟨_, rfl⟩
        obtain ⟨x, hx⟩ : ∃ v, v = al.getD (k + 1) 0 := ⟨_, rfl⟩
        obtain ⟨y1, hy1⟩ : ∃ v, v = of.getD (k + 1) 0 := ⟨_, rfl⟩
        have yf : Fl.Fin y := by rw [hy]; exact ho k (by omega)
        have y1f : k + 2 < m → Fl.Fin y1 := fun h => by rw [hy1]; exact ho (k + 1) (by omega)
        have y64 : y < 18446744073709551616 := by rw [hy]; exact o64.get k
        have c3 : k + 2 < m → wr.cell? ⟨O, k + 1, none⟩ = some (.float .f64 y1) := fun h => by rw [hy1]; exact hMr.o.cell (k := k + 1) (by omega)
        have HY1 : Hid (y1 = of.getD (k + 1) 0) := hy1
        clear hy1
        have c1 := hMr.o.cell (k := k) (by omega)
        have c2 := hMr.a.cell (k := k + 1) (by omega)
        rw [← hy] at c1
        rw [← hx] at c2
        have HY : Hid (y = of.getD k 0) := hy
        have HX : Hid (x = al.getD (k + 1) 0) := hx
        clear hy hx
        have b1 : (k : Int) < (lo : Int) := by omega
        have b2 : (k : Int) + 1 < (m : Int) := by omega
        go_upto_region 9 with fail
        go_cut [17, 18, 19] (fun s17 s18 s19 wx => ∃ n1 n, s17 = .float .f64 y ∧ s18 = .float .f64 n1 ∧ cn n1 = pf .sub x th ∧ n1 < 18446744073709551616 ∧ s19 = .float .f64 0 ∧ wx = wr.drewN n)
        case first => as_aux_lemma =>
          go_region
          all_goals go_wp2
          all_goals go_meet
          all_goals (case rel => exact ⟨_, _, rfl, rfl, cn_fv _ _ _ _, fv_lt _ _ _ _, rfl, rfl⟩)
        case rest => as_aux_lemma =>
          obtain ⟨n1, n, rfl, rfl, hn1, hn164, rfl, rfl⟩ := hcut
          have HN1 : Hid (cn n1 = pf .sub x th) := hn1
          clear hn1 c1 c2
          have C3 : Hid (k + 2 < m → wr.cell? ⟨O, k + 1, none⟩ = some (.float .f64 y1)) := c3
          clear c3
          go_upto_if 65 with fail
          go_cut [19] (fun s19 wx => ∃ n2, s19 = .float .f64 n2 ∧ n2 = (if k + 2 < m then y1 else 0) ∧ wx = wr.drewN n)
          case first => as_aux_lemma =>
            by_cases hk2 : k + 2 < m
            · have c3 := C3.out hk2
              have b3 : (k : Int) + 1 < (lo : Int) := by omega
              have b4 : (k : Int) + 2 < (m : Int) := by omega
              go_wp2
              go_meet
              case rel => exact ⟨_, rfl, (if_pos hk2).symm, rfl⟩
            · have b4 : ¬ (k : Int) + 2 < (m : Int) := by omega
              go_wp2
              go_meet
              case rel => exact ⟨_, rfl, (if_neg hk2).symm, rfl⟩
          case rest => as_aux_lemma =>
            obtain ⟨n2, rfl, hn2, rfl⟩ := hcut
            have HN2 : Hid (cn n2 = nx2 of m k) := nx2_eq HY1.out y1f hn2
            clear hn2 C3
            obtain ⟨v0, hv0⟩ : ∃ v, v = bs'.getD k 0 := ⟨_, rfl⟩
            obtain ⟨v1, hv1⟩ : ∃ v, v = bs'.getD (k + 1) 0 := ⟨_, rfl⟩
            have c4 := hMr.b.cell (k := k) (by omega)
            have c5 := hMr.b.cell (k := k + 1) (by omega)
            rw [← hv0] at c4
            rw [← hv1] at c5
            have f4 := hMr.b.frozen k
            have f5 := hMr.b.frozen (k + 1)
            have HV0 : Hid (v0 = bs'.getD k 0) := hv0
            have HV1 : Hid (v1 = bs'.getD (k + 1) 0) := hv1
            have v064 : v0 < 18446744073709551616 := by rw [hv0]; exact h64'.get k
            have v164 : v1 < 18446744073709551616 := by rw [hv1]; exact h64'.get (k + 1)
            clear hv0 hv1
            go_upto_if 75 with (go_at_call 29; refine (abs29 _ (by assumption) _).mono ?_; rintro e w' ⟨rfl, rfl⟩)
            go_cut [13, 14, 15, 17, 18, 19] (fun s13 s14 s15 s17 s18 s19 wx => ∃ (e0 e1 e2 f0 f1 f2 : Nat) (bs2 : List Nat), s13 = .float .f64 e0 ∧ s14 = .float .f64 e1 ∧ s15 = .float .f64 e2 ∧ s17 = .float .f64 f0 ∧ s18 = .float .f64 f1 ∧ s19 = .float .f64 f2 ∧
              Mem w wx A O Bb U0 U1 U2 al of bs2 u0 u1 u2 ∧ e0 < 18446744073709551616 ∧ W64 bs2 ∧ bs2.length = m ∧
              round al of th (tinyF th) m k (St.mk (cn d0) (cn d1) (cn d2) (bs'.map cn) (u0.map cn) (u1.map cn) (u2.map cn)) = elim k (tinyF th) (cn e0) (cn e1) (cn e2) (cn f0) (cn f1) (cn f2) (bs2.map cn) (u0.map cn) (u1.map cn) (u2.map cn))
            case first => as_aux_lemma =>
              go_wp2
              · have hsw : (FloatKind.f64.format.order (absF y) (absF d0) == some .gt) = true := by assumption
                go_region
                go_wp2
                go_meet
                case rel =>
                  refine ⟨_, _, _, _, _, _, _, rfl, rfl, rfl, rfl, rfl, rfl, ((hMr.drewN _).setB k v1).setB (k + 1) v0, y64, (h64'.set k v164).set (k + 1) v064, by simp; omega, ?_⟩
                  rw [HV0.out, HV1.out]
                  exact round_yes HY.out yf HX.out HN1.out HN2.out hsw
              · have hsw : (FloatKind.f64.format.order (absF y) (absF d0) == some .gt) = false := by assumption
                go_meet
                case rel => exact ⟨_, _, _, _, _, _, _, rfl, rfl, rfl, rfl, rfl, rfl, hMr.drewN _, hd0, h64', by omega, round_no HY.out yf HX.out HN1.out HN2.out hsw⟩
            case rest => as_aux_lemma =>
              obtain ⟨e0, e1, e2, f0, f1, f2, bs2, rfl, rfl, rfl, rfl, rfl, rfl, hM2, he0, h642, lb2, hR⟩ := hcut
              have HR : Hid (round al of th (tinyF th) m k (St.mk (cn d0) (cn d1) (cn d2) (bs'.map cn) (u0.map cn) (u1.map cn) (u2.map cn)) = elim k (tinyF th) (cn e0) (cn e1) (cn e2) (cn f0) (cn f1) (cn f2) (bs2.map cn) (u0.map cn) (u1.map cn) (u2.map cn)) := hR
              clear hR c4 c5 f4 f5 HV0 HV1 v064 v164 HN2 HN1 hn164 HY HX HY1 hMr y1f yf y64
              go_upto_if 99 with fail
              go_cut [13] (fun s13 wx => ∃ p, s13 = .float .f64 p ∧ cn p = (if zeroF (cn e0) then tinyF th else cn e0) ∧ wx = wc)
              case first => as_aux_lemma =>
                go_wp2
                · have hz : (FloatKind.f64.format.order e0 0 == some .eq) = true := by assumption
                  go_meet
                  case rel => exact ⟨_, rfl, by rw [zeroF_cn]; exact HT.out.trans (if_pos hz).symm, rfl⟩
                · have hz : (FloatKind.f64.format.order e0 0 == some .eq) = false := by assumption
                  go_meet
                  case rel => exact ⟨_, rfl, by rw [zeroF_cn]; exact (if_neg (by unfold zeroF; rw [show (Ieee.double.order e0 0 == some .eq) = false from hz]; decide)).symm, rfl⟩
              case rest => as_aux_lemma =>
                obtain ⟨p, rfl, hp, rfl⟩ := hcut
                have HP : Hid (cn p = (if zeroF (cn e0) then tinyF th else cn e0)) := hp
                clear hp
                have c6 := hM2.p.cell (k := k) (by omega)
                have c7 := hM2.q.cell (k := k) (by omega)
                have c8 := hM2.r.cell (k := k) (by omega)
                have f6 := hM2.p.frozen k
                have f7 := hM2.q.frozen k
                have f8 := hM2.r.frozen k
                generalize u0.getD k 0 = q0 at c6
                generalize u1.getD k 0 = q1 at c7
                generalize u2.getD k 0 = q2 at c8
                obtain ⟨nu1, nu2, nu3, nu4, nu5, nu6⟩ := hM2.nu
                go_upto_region 18 with fail
                go_cut [20] (fun s20 wx => ∃ l, s20 = .float .f64 l ∧ cn l = pf .quo f0 p ∧ Mem w wx A O Bb U0 U1 U2 al of bs2 (u0.set k p) (u1.set k e1) (u2.set k e2))
                case first => as_aux_lemma =>
                  go_wp2
                  go_meet
                  case rel => exact ⟨_, rfl, cn_fv _ _ _ _, (((hM2.drewN _).setP k p).setQ k e1).setR k e2⟩
                case rest => as_aux_lemma =>
                  obtain ⟨l, rfl, hl, hM3⟩ := hcut
                  have HL : Hid (cn l = pf .quo f0 p) := hl
                  clear hl c6 c7 c8 f6 f7 f8 hM2
                  obtain ⟨v0, hv0⟩ : ∃ v, v = bs2.getD k 0 := ⟨_, rfl⟩
                  obtain ⟨v1, hv1⟩ : ∃ v, v = bs2.getD (k + 1) 0 := ⟨_, rfl⟩
                  have c4 := hM3.b.cell (k := k) (by omega)
                  have c5 := hM3.b.cell (k := k + 1) (by omega)
                  rw [← hv0] at c4
                  rw [← hv1] at c5
                  have f5 := hM3.b.frozen (k + 1)
                  have HV0 : Hid (v0 = bs2.getD k 0) := hv0
                  have HV1 : Hid (v1 = bs2.getD (k + 1) 0) := hv1
                  clear hv0 hv1
                  go_upto_region 19 with fail
                  go_cut [] (fun wx => ∃ v, cn v = pf .sub v1 (pf .mul l v0) ∧ v < 18446744073709551616 ∧ Mem w wx A O Bb U0 U1 U2 al of (bs2.set (k + 1) v) (u0.set k p) (u1.set k e1) (u2.set k e2))
                  case first => as_aux_lemma =>
                    go_region
                    all_goals go_wp2
                    all_goals go_meet
                    all_goals (case rel => exact ⟨_, cn_sub_mul _ _ _ _ _, fv_lt _ _ _ _, (hM3.drewN _).setB (k + 1) _⟩)
                  case rest => as_aux_lemma =>
                    obtain ⟨v, hv, hv64, hM4⟩ := hcut
                    have HV : Hid (cn v = pf .sub v1 (pf .mul l v0)) := hv
                    clear hv c4 c5 f5 hM3
                    go_wp2
                    go_roundw
                    case rel =>
                      refine ⟨k + 1, _, _, _, _, _, _, _, by omega, by go_num, rfl, rfl, rfl, hM4.drewN _, fv_lt _ _ _ _, h642.set _ hv64, ?_⟩
                      refine (elim_eq HP.out HL.out (by rw [← HV0.out, ← HV1.out]; exact HV.out)).trans ?_
                      rw [← HR.out, HS.out]
                      rfl
                    case measure => simp [intOf]; omega
      · obtain ⟨ln, l0, l1, l2⟩ := lens_of HS.out
        have hkm : k = m - 1 := by omega
        have HK : Hid (k = m - 1) := hkm
        clear hkm
        go_upto_if 140 with fail
        go_cut [13] (fun s13 wx => ∃ p, s13 = .float .f64 p ∧ cn p = (if zeroF (cn d0) then tinyF th else cn d0) ∧ p < 18446744073709551616 ∧ wx = wr)
        case first => as_aux_lemma =>
          go_wp2
          · have hz : (FloatKind.f64.format.order d0 0 == some .eq) = true := by assumption
            go_meet
            case rel => exact ⟨_, rfl, by rw [zeroF_cn]; exact HT.out.trans (if_pos hz).symm, hti64, rfl⟩
          · have hz : (FloatKind.f64.format.order d0 0 == some .eq) = false := by assumption
            go_meet
            case rel => exact ⟨_, rfl, by rw [zeroF_cn]; exact (if_neg (by unfold zeroF; rw [show (Ieee.double.order d0 0 == some .eq) = false from hz]; decide)).symm, hd0, rfl⟩
        case rest => as_aux_lemma =>
          obtain ⟨p, rfl, hp, hp64, rfl⟩ := hcut
          have HP : Hid (cn p = (if zeroF (cn d0) then tinyF th else cn d0)) := hp
          clear hp
          have c6 := hMr.p.cell (k := m - 1) (by omega)
          have f6 := hMr.p.frozen (m - 1)
          generalize u0.getD (m - 1) 0 = q0 at c6
          have b5 : (0 : Int) ≤ (m : Int) - 1 := by omega
          go_wp2
          have hM5 := hMr.setP (m - 1) p
          have hst := back_start HS.out HP.out HK.out
          have HST : Hid (solveF al of th m (bs.map cn) = backs ((u0.set (m - 1) p).map cn) (u1.map cn) (u2.map cn) m (bs'.map cn) m) := hst
          have hu0 : (u0.set (m - 1) p).length = m := by simpa using l0
          clear c6 f6 hMr HS hst
          generalize u0.set (m - 1) p = u0' at *
          generalize wc.setCell ⟨U0, m - 1, none⟩ (Value.float FloatKind.f64 p) = wz at *
          go_loopw [21] (fun s21 wr => ∃ bs3, Mem w wr A O Bb U0 U1 U2 al of bs3 u0' u1 u2 ∧ W64 bs3 ∧ bs3.length = m ∧ ((∃ i : Nat, i < m ∧ s21 = .int .i64 i ∧ bs3.map cn = backs (u0'.map cn) (u1.map cn) (u2.map cn) m (bs'.map cn) (m - 1 - i)) ∨ (s21 = .int .i64 (-1) ∧ bs3.map cn = backs (u0'.map cn) (u1.map cn) (u2.map cn) m (bs'.map cn) m)))
            (fun s21 _ => (intOf s21 + 1).toNat)
          case atStart => exact ⟨bs', hM5, h64', by omega, Or.inl ⟨m - 1, by omega, vint (by omega), by rw [show m - 1 - (m - 1) = 0 by omega]; rfl⟩⟩
          case round => as_aux_lemma =>
            obtain ⟨bs3, hM6, h643, l3, hcase⟩ := hrel
            rcases hcase with ⟨i, hi, rfl, hb3⟩ | ⟨rfl, hb3⟩
            · have HB : Hid (bs3.map cn = backs (u0'.map cn) (u1.map cn) (u2.map cn) m (bs'.map cn) (m - 1 - i)) := hb3
              clear hb3
              have c1 := hM6.b.cell (k := i) (by omega)
              have c2 : i + 1 < m → wr.cell? ⟨Bb, i + 1, none⟩ = some (.float .f64 (bs3.getD (i + 1) 0)) := fun h => hM6.b.cell (k := i + 1) (by omega)
              have c3 : i + 2 < m → wr.cell? ⟨Bb, i + 2, none⟩ = some (.float .f64 (bs3.getD (i + 2) 0)) := fun h => hM6.b.cell (k := i + 2) (by omega)
              have c4 := hM6.q.cell (k := i) (by omega)
              have c5 := hM6.r.cell (k := i) (by omega)
              have c6 := hM6.p.cell (k := i) (by omega)
              have f1 := hM6.b.frozen i
              obtain ⟨v0, hv0⟩ : ∃ v, v = bs3.getD i 0 := ⟨_, rfl⟩
              obtain ⟨v1, hv1⟩ : ∃ v, v = bs3.getD (i + 1) 0 := ⟨_, rfl⟩
              obtain ⟨v2, hv2⟩ : ∃ v, v = bs3.getD (i + 2) 0 := ⟨_, rfl⟩
              obtain ⟨q0, hq0⟩ : ∃ v, v = u0'.getD i 0 := ⟨_, rfl⟩
              obtain ⟨q1, hq1⟩ : ∃ v, v = u1.getD i 0 := ⟨_, rfl⟩
              obtain ⟨q2, hq2⟩ : ∃ v, v = u2.getD i 0 := ⟨_, rfl⟩
              rw [← hv0] at c1
              rw [← hv1] at c2
              rw [← hv2] at c3
              rw [← hq1] at c4
              rw [← hq2] at c5
              rw [← hq0] at c6
              have HV0 : Hid (v0 = bs3.getD i 0) := hv0
              have HV1 : Hid (v1 = bs3.getD (i + 1) 0) := hv1
              have HV2 : Hid (v2 = bs3.getD (i + 2) 0) := hv2
              have HQ0 : Hid (q0 = u0'.getD i 0) := hq0
              have HQ1 : Hid (q1 = u1.getD i 0) := hq1
              have HQ2 : Hid (q2 = u2.getD i 0) := hq2
              have C2 : Hid (i + 1 < m → wr.cell? ⟨Bb, i + 1, none⟩ = some (.float .f64 v1)) := c2
              have C3 : Hid (i + 2 < m → wr.cell? ⟨Bb, i + 2, none⟩ = some (.float .f64 v2)) := c3
              clear hv0 hv1 hv2 hq0 hq1 hq2 c2 c3
              have b0 : (0 : Int) ≤ (i : Int) := by omega
              have b1 : (i : Int) < (m : Int) := by omega
              go_upto_if 160 with fail
              go_cut [22] (fun s22 wx => ∃ s1 n, s22 = .float .f64 s1 ∧ cn s1 = (if i + 1 < m then pf .sub v0 (pf .mul q1 v1) else cn v0) ∧ wx = wr.drewN n)
              case first => as_aux_lemma =>
                by_cases h1 : i + 1 < m
                · have c2 := C2.out h1
                  have b2 : (i : Int) + 1 < (m : Int) := by omega
                  go_wp2
                  go_region
                  all_goals go_wp2
                  all_goals go_meet
                  all_goals (case rel => exact ⟨_, _, rfl, by rw [if_pos h1]; exact cn_sub_mul _ _ _ _ _, rfl⟩)
                · have b2 : ¬ (i : Int) + 1 < (m : Int) := by omega
                  go_wp2
                  go_meet
                  case rel => exact ⟨_, 0, rfl, by rw [if_neg h1], rfl⟩
              case rest => as_aux_lemma =>
                obtain ⟨s1, n, rfl, hs1, rfl⟩ := hcut
                have HS1 : Hid (cn s1 = (if i + 1 < m then pf .sub v0 (pf .mul q1 v1) else cn v0)) := hs1
                clear hs1 c4 C2
                go_upto_if 176 with fail
                go_cut [22] (fun s22 wx => ∃ s2 n, s22 = .float .f64 s2 ∧ cn s2 = (if i + 2 < m then pf .sub s1 (pf .mul q2 v2) else cn s1) ∧ wx = wr.drewN n)
                case first => as_aux_lemma =>
                  by_cases h1 : i + 2 < m
                  · have c3 := C3.out h1
                    have b2 : (i : Int) + 2 < (m : Int) := by omega
                    go_wp2
                    go_region
                    all_goals go_wp2
                    all_goals go_meet
                    all_goals (case rel => exact ⟨_, _, rfl, by rw [if_pos h1]; exact cn_sub_mul _ _ _ _ _, rfl⟩)
                  · have b2 : ¬ (i : Int) + 2 < (m : Int) := by omega
                    go_wp2
                    go_meet
                    case rel => exact ⟨_, n, rfl, by rw [if_neg h1], rfl⟩
                case rest => as_aux_lemma =>
                  obtain ⟨s2, n', rfl, hs2, rfl⟩ := hcut
                  have HS2 : Hid (cn s2 = (if i + 2 < m then pf .sub s1 (pf .mul q2 v2) else cn s1)) := hs2
                  clear hs2 c5 C3
                  go_wp2
                  go_roundw
                  case rel =>
                    have hback := back_step HB.out HV0.out HV1.out HV2.out HQ0.out HQ1.out HQ2.out HS1.out HS2.out (wr.drewN n') rfl rfl rfl hi
                    refine ⟨_, (hM6.drewN _).setB i _, h643.set i (fv_lt _ _ _ _), by simpa using l3, ?_⟩
                    by_cases hi0 : i = 0
                    · right
                      exact ⟨vint (by omega), by rw [hback, show m - 1 - i + 1 = m by omega]⟩
                    · left
                      exact ⟨i - 1, by omega, vint (by omega), by rw [hback, show m - 1 - i + 1 = m - 1 - (i - 1) by omega]⟩
                  case measure => simp [intOf]
            · go_wp2
              go_end0
              exact ⟨bs3, rfl, hM6.b, by rw [HST.out, hb3], h643, hM6.g⟩
end Go.Proofs.Qxb6605993a
