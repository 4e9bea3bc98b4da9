/- The walk of tridiagonalEigenvalue. -/
import Derived.Test.Qxb6605993aBisQ
import Derived.Test.Qxb6605993aCount
namespace Go.Proofs.Qxb6605993a
open Go.ChangeShapes Go.WideShapes Go.ChangeAt Go.RowKit
attribute [local go_sem] run_fadd run_fsub run_fmul run_fquo run_store_float unary_fneg

theorem fv_fin {op : BinOp} {x y : Nat} (h : Fl.Fin (pf op x y)) (w : World) : fv op x y w = pf op x y := by
  have e := cn_fv op x y w
  cases hn : isN (fv op x y w)
  · rw [cn_of_not hn] at e; exact e
  · rw [cn_of_isN hn] at e; rw [← e] at h; exact absurd h not_fin_NAN

theorem run_min {x y : Nat} (hx : Fl.Fin x) (hy : Fl.Fin y) (ts : Array TypeId) (t : TypeId) (w : World) :
    (Builtin.min_ ts t #[.float .f64 x, .float .f64 y]).run Try.prog w = .ok (.float .f64 (minW x y)) w := by
  unfold minW
  have ho := Fl.order_fin hx hy
  by_cases h : Fl.val x < Fl.val y
  · have h1' : FloatKind.f64.format.order x y = some .lt := ho.1 h
    rw [ho.1 h]
    simp [Builtin.min_, Builtin.min2, h1']
  · by_cases h2 : Fl.val x = Fl.val y
    · have h1' : FloatKind.f64.format.order x y = some .eq := ho.2.1 h2
      rw [ho.2.1 h2]
      simp [Builtin.min_, Builtin.min2, h1']
    · have h1' : FloatKind.f64.format.order x y = some .gt := ho.2.2 (by grind)
      rw [ho.2.2 (by grind)]
      simp [Builtin.min_, Builtin.min2, h1']
theorem run_max {x y : Nat} (hx : Fl.Fin x) (hy : Fl.Fin y) (ts : Array TypeId) (t : TypeId) (w : World) :
    (Builtin.max_ ts t #[.float .f64 x, .float .f64 y]).run Try.prog w = .ok (.float .f64 (maxW x y)) w := by
  unfold maxW
  have ho := Fl.order_fin hx hy
  by_cases h : Fl.val x < Fl.val y
  · have h1' : FloatKind.f64.format.order x y = some .lt := ho.1 h
    rw [ho.1 h]
    simp [Builtin.max_, Builtin.max2, h1']
  · by_cases h2 : Fl.val x = Fl.val y
    · have h1' : FloatKind.f64.format.order x y = some .eq := ho.2.1 h2
      rw [ho.2.1 h2]
      simp [Builtin.max_, Builtin.max2, h1']
    · have h1' : FloatKind.f64.format.order x y = some .gt := ho.2.2 (by grind)
      rw [ho.2.2 (by grind)]
      simp [Builtin.max_, Builtin.max2, h1']

/-- the half and the midpoint are finite -/
theorem mids_fin {al of : List Nat} {m lo hi : Nat} (I : InvB al of m lo hi) : Fl.Fin (pf .quo (pf .sub hi lo) 4611686018427387904) ∧ Fl.Fin (pf .add lo (pf .quo (pf .sub hi lo) 4611686018427387904)) ∧
    Fl.RN (Fl.val (pf .sub hi lo) / 2) (Fl.val (pf .quo (pf .sub hi lo) 4611686018427387904)) ∧ Fl.RN (Fl.val lo + Fl.val (pf .quo (pf .sub hi lo) 4611686018427387904)) (Fl.val (pf .add lo (pf .quo (pf .sub hi lo) 4611686018427387904))) := by
  obtain ⟨ft, rt, t0⟩ := mids I
  have hl := I.blo.2
  have hh := I.bhi.2
  have lt := I.lt
  have big := nums.2.2
  obtain ⟨u1, u2, u3, u4, u5⟩ := u_nums
  have erT := rt.err (b := 100663298) (by grind) (by grind)
  obtain ⟨f2, v2⟩ := val_pow (w := 4611686018427387904) 1023 1 (by omega) rfl (by omega)
  have v2' : Fl.val 4611686018427387904 = 2 := by rw [v2, p2_53.2.1]
  have q := pf_quo ft f2 (by rw [v2']; grind)
  rw [v2'] at q
  obtain ⟨fq, rq⟩ := q.small (by grind) (by grind)
  have erq := rq.err (b := 100663300) (by grind) (by grind)
  obtain ⟨fa, ra⟩ := (pf_add I.blo.1 fq).small (by grind) (by grind)
  exact ⟨fq, fa, rq, ra⟩
def fOf : Value → Nat
  | .float _ x => x
  | _ => 0

set_option maxHeartbeats 2000000 in
theorem value28 (A O m ca lo co k : Nat) (po : Option Addr) (al of : List Nat) (w : World) (hA : FB w A al)
    (hO : 1 < m → po = some ⟨O, 0, none⟩ ∧ FB w O of ∧ m ≤ lo + 1 ∧ lo ≤ of.length) (hlo : lo = m - 1)
    (hmx : m ≤ 1048576) (la : m ≤ al.length) (H : InpB al of m) (o64 : W64 of) :
    Calls Try.prog 28 #[.slice (some ⟨A, 0, none⟩) m ca, .slice po lo co, .int .i64 k] w fun e w' => ∃ th n, e = .returned (.float .f64 th) ∧ Answer al of m k th ∧ w' = w.drewN n := by
  have HO : Hid (1 < m → po = some ⟨O, 0, none⟩ ∧ FB w O of ∧ m ≤ lo + 1 ∧ lo ≤ of.length) := hO
  have m1 := H.m1
  have HLO : Hid (lo = m - 1) := hlo
  clear hO hlo
  have c0 := hA.cell (show 0 < al.length by omega)
  have b0 : (0 : Int) < (m : Int) := by omega
  obtain ⟨a0, ha0⟩ : ∃ v, v = al.getD 0 0 := ⟨_, rfl⟩
  rw [← ha0] at c0
  have HA0 : Hid (a0 = al.getD 0 0) := ha0
  clear ha0
  go_enter Try.func28, Try.ntmps28
  go_wp2
  go_region
  all_goals go_wp2
  have HS : Hid (gLo al of m 0 = a0 ∧ gHi al of m 0 = a0) := ⟨HA0.out.symm, HA0.out.symm⟩
  clear HA0 c0 b0
  go_loopw [7, 8, 9, 10, 11, 22] (fun l h _ _ _ i wr => ∃ j n : Nat, j ≤ m ∧ i = .int .i64 j ∧ l = .float .f64 (gLo al of m j) ∧ h = .float .f64 (gHi al of m j) ∧ wr = w.drewN n) (fun _ _ _ _ _ i _ => m - (intOf i).toNat)
  case atStart => exact ⟨0, _, Nat.zero_le _, rfl, by rw [HS.out.1], by rw [HS.out.2], rfl⟩
  case round =>
    obtain ⟨j, n, hj, rfl, rfl, rfl, rfl⟩ := hrel
    clear HS
    by_cases hlt : j < m
    · have c1 := hA.cell (show j < al.length by omega)
      obtain ⟨fR, _⟩ := rad_val H hlt
      obtain ⟨⟨bS, _⟩, bP, _⟩ := lows H hlt
      have fl := (gLo_facts H j hj).1.1
      have fh := (gHi_facts H j hj).1.1
      have e3 : ∀ w, fv .sub (al.getD j 0) (radF of m j) w = pf .sub (al.getD j 0) (radF of m j) := fv_fin bS.1
      have e4 : ∀ w, fv .add (al.getD j 0) (radF of m j) w = pf .add (al.getD j 0) (radF of m j) := fv_fin bP.1
      have hmin := run_min fl bS.1
      have hmax := run_max fh bP.1
      obtain ⟨l', hl'⟩ : ∃ l', l' = minW (gLo al of m j) (pf .sub (al.getD j 0) (radF of m j)) := ⟨_, rfl⟩
      obtain ⟨h', hh'⟩ : ∃ h', h' = maxW (gHi al of m j) (pf .add (al.getD j 0) (radF of m j)) := ⟨_, rfl⟩
      have HL' : Hid (l' = gLo al of m (j + 1)) := hl'
      have HH' : Hid (h' = gHi al of m (j + 1)) := hh'
      rw [← hl'] at hmin
      rw [← hh'] at hmax
      clear hl' hh' bS bP fl fh fR
      have r0 : rad1 of j = if 0 < j then pf .add 0 (absF (of.getD (j - 1) 0)) else 0 := rfl
      have r1 : radF of m j = if j + 1 < m then pf .add (rad1 of j) (absF (of.getD j 0)) else rad1 of j := rfl
      generalize al.getD j 0 = a at *
      generalize gLo al of m j = L at *
      generalize gHi al of m j = Hh at *
      generalize pf .sub a (radF of m j) = S at *
      generalize pf .add a (radF of m j) = P at *
      have f1 : Fl.Fin (rad1 of j) := (rad1_val H hlt).1
      have fR : Fl.Fin (radF of m j) := (rad_val H hlt).1
      by_cases h0 : j = 0
      · subst h0
        by_cases h2 : 1 < m
        · obtain ⟨hpo, hO, _, _⟩ := HO.out h2
          subst hpo
          have c2 := hO.cell (show 0 < of.length by omega)
          have b2 : (0 : Int) < (lo : Int) := by have := HLO.out; omega
          have er : radF of m 0 = pf .add 0 (absF (of.getD 0 0)) := by rw [r1, if_pos (by omega)]; rfl
          have e2 : ∀ w, fv .add 0 (absF (of.getD 0 0)) w = radF of m 0 := fun w => by rw [fv_fin (by rw [← er]; exact fR), er]
          have o2 := o64.get 0
          generalize of.getD 0 0 = o at *
          generalize radF of m 0 = R at *
          clear r0 r1 er
          go_wp2_with fail
          refine (abs29 _ o2 _).mono ?_
          rintro e w' ⟨rfl, hw⟩
          have hw' := hw.symm
          clear hw
          subst hw'
          go_wp2
          go_roundw
          case rel => exact ⟨1, _, by omega, rfl, by rw [HL'.out], by rw [HH'.out], rfl⟩
          case measure => simp [intOf]; omega
        · have b2 : ¬ ((0 : Int) < (lo : Int)) := by have := HLO.out; omega
          have er : radF of m 0 = 0 := by rw [r1, if_neg (by omega)]; rfl
          rw [er] at e3 e4
          go_wp2
          go_roundw
          case rel => exact ⟨1, _, by omega, rfl, by rw [HL'.out], by rw [HH'.out], rfl⟩
          case measure => simp [intOf]; omega
      · obtain ⟨t, rfl⟩ : ∃ t, j = t + 1 := ⟨j - 1, by omega⟩
        obtain ⟨hpo, hO, _, _⟩ := HO.out (by omega)
        subst hpo
        have c2 := hO.cell (show t < of.length by omega)
        have b1 : (t : Int) < (lo : Int) := by have := HLO.out; omega
        have b3 : ((t + 1 : Nat) : Int) - 1 = (t : Int) := by omega
        have b4 : (0 : Int) < ((t + 1 : Nat) : Int) := by omega
        have er0 : rad1 of (t + 1) = pf .add 0 (absF (of.getD t 0)) := by rw [r0, if_pos (by omega), Nat.add_sub_cancel]
        have e1 : ∀ w, fv .add 0 (absF (of.getD t 0)) w = rad1 of (t + 1) := fun w => by rw [fv_fin (by rw [← er0]; exact f1), er0]
        have o1 := o64.get t
        by_cases h2 : t + 1 + 1 < m
        · have c3 := hO.cell (show t + 1 < of.length by omega)
          have b5 : ((t + 1 : Nat) : Int) < (lo : Int) := by have := HLO.out; omega
          have er : radF of m (t + 1) = pf .add (rad1 of (t + 1)) (absF (of.getD (t + 1) 0)) := by rw [r1, if_pos (by omega)]
          have e2 : ∀ w, fv .add (rad1 of (t + 1)) (absF (of.getD (t + 1) 0)) w = radF of m (t + 1) := fun w => by rw [fv_fin (by rw [← er]; exact fR), er]
          have o2 := o64.get (t + 1)
          generalize of.getD t 0 = o at *
          generalize of.getD (t + 1) 0 = o' at *
          generalize radF of m (t + 1) = R at *
          generalize rad1 of (t + 1) = R1 at *
          clear r0 r1 er er0
          go_wp2_with fail
          refine (abs29 _ o1 _).mono ?_
          rintro e w' ⟨rfl, hw⟩
          have hw' := hw.symm
          clear hw
          subst hw'
          go_wp2_with fail
          refine (abs29 _ o2 _).mono ?_
          rintro e w' ⟨rfl, hw⟩
          have hw' := hw.symm
          clear hw
          subst hw'
          go_wp2
          go_roundw
          case rel => exact ⟨t + 1 + 1, _, by omega, by go_num, by rw [HL'.out], by rw [HH'.out], rfl⟩
          case measure => simp [intOf]; omega
        · have b5 : ¬ (((t + 1 : Nat) : Int) < (lo : Int)) := by have := HLO.out; omega
          have er : radF of m (t + 1) = rad1 of (t + 1) := by rw [r1, if_neg (by omega)]
          rw [← er] at e1
          generalize of.getD t 0 = o at *
          generalize radF of m (t + 1) = R at *
          clear r0 r1 er er0
          go_wp2_with fail
          refine (abs29 _ o1 _).mono ?_
          rintro e w' ⟨rfl, hw⟩
          have hw' := hw.symm
          clear hw
          subst hw'
          go_wp2
          go_roundw
          case rel => exact ⟨t + 1 + 1, _, by omega, by go_num, by rw [HL'.out], by rw [HH'.out], rfl⟩
          case measure => simp [intOf]; omega
    · obtain rfl : j = m := by omega
      have e5 : ∀ w, fv .sub (gLo al of j j) 4607182418800017408 w = lo0F al of j := fv_fin (lo0_facts H).1.1
      have e6 : ∀ w, fv .add (gHi al of j j) 4607182418800017408 w = hi0F al of j := fv_fin (hi0_facts H).1.1
      have l64 : lo0F al of j < 18446744073709551616 := pf_lt _ _ _
      have h64 : hi0F al of j < 18446744073709551616 := pf_lt _ _ _
      have hmax := run_max (fin_absF (lo0_facts H).1.1) (fin_absF (hi0_facts H).1.1)
      have e7 : ∀ w, fv .mul 4372995238176751616 (maxW (absF (lo0F al of j)) (absF (hi0F al of j))) w = epsF al of j := fv_fin (eps_val H).1
      have HR0 : Hid (Reach al of j k (lo0F al of j) (hi0F al of j)) := Reach.start
      generalize gLo al of j j = gl at *
      generalize gHi al of j j = gh at *
      generalize lo0F al of j = L0 at *
      generalize hi0F al of j = H0 at *
      generalize maxW (absF L0) (absF H0) = Mx at *
      obtain ⟨ep, hep⟩ : ∃ ep, ep = epsF al of j := ⟨_, rfl⟩
      rw [← hep] at e7
      have HEP : Hid (ep = epsF al of j) := hep
      clear hep hlt
      go_wp2_with fail
      refine (abs29 _ l64 _).mono ?_
      rintro e w' ⟨rfl, hw⟩
      have hw' := hw.symm
      clear hw
      subst hw'
      go_wp2_with fail
      refine (abs29 _ h64 _).mono ?_
      rintro e w' ⟨rfl, hw⟩
      have hw' := hw.symm
      clear hw
      subst hw'
      go_wp2
      clear e5 e6 e7 hmax l64 h64
      go_loopw [7, 8, 13] (fun l h _ wr => ∃ lo' hi' n : Nat, l = .float .f64 lo' ∧ h = .float .f64 hi' ∧ Reach al of j k lo' hi' ∧ wr = w.drewN n) (fun l h _ _ => gap (fOf l) (fOf h))
      case atStart => exact ⟨_, _, _, rfl, rfl, HR0.out, rfl⟩
      case round =>
        obtain ⟨lo', hi', n', rfl, rfl, hreach, rfl⟩ := hrel
        have I := reach_inv H hreach
        have HI : Hid (InvB al of j lo' hi') := I
        have HRR : Hid (Reach al of j k lo' hi') := hreach
        obtain ⟨ft, _, _⟩ := mids I
        obtain ⟨fq, fm, _, _⟩ := mids_fin I
        have e8 : ∀ w, fv .sub hi' lo' w = pf .sub hi' lo' := fv_fin ft
        have e9 : ∀ w, fv .quo (pf .sub hi' lo') 4611686018427387904 w = pf .quo (pf .sub hi' lo') 4611686018427387904 := fv_fin fq
        have e10 : ∀ w, fv .add lo' (pf .quo (pf .sub hi' lo') 4611686018427387904) w = midF lo' hi' := fv_fin fm
        have HT : Hid (∀ b, (FloatKind.f64.format.order (pf .sub hi' lo') ep == some .gt) = b → gtF (pf .sub hi' lo') (epsF al of j) = b) := fun b hb => by rw [← HEP.out]; exact hb
        clear I hreach ft fq fm HR0
        generalize pf .quo (pf .sub hi' lo') 4611686018427387904 = hf at *
        obtain ⟨T, hT⟩ : ∃ T, T = pf .sub hi' lo' := ⟨_, rfl⟩
        rw [← hT] at e8 e9
        have HTT : Hid (T = pf .sub hi' lo') := hT
        clear hT
        go_wp2_with fail
        · have hg : (FloatKind.f64.format.order T ep == some .gt) = true := by assumption
          have HG : Hid (gtF (pf .sub hi' lo') (epsF al of j) = true) := HT.out _ (by rw [← HTT.out]; exact hg)
          generalize n' + dn .sub hi' lo' + dn .sub hi' lo' + dn .quo T 4611686018427387904 + dn .add lo' hf = n'' at *
          refine (below35 A O j ca lo co _ po al of _ (hA.drewN _) (fun h => ?_) m1 hmx la).mono ?_
          · obtain ⟨q1, q2, q3, q4⟩ := HO.out h
            exact ⟨q1, q2.drewN _, q3, q4⟩
          rintro e w' ⟨n2, rfl, hw⟩
          subst hw
          obtain ⟨fl, fm, fh, s1, s2⟩ : Fl.Fin lo' ∧ Fl.Fin (midF lo' hi') ∧ Fl.Fin hi' ∧ Fl.val lo' < Fl.val (midF lo' hi') ∧ Fl.val (midF lo' hi') < Fl.val hi' := by
            obtain ⟨_, q1, q2, q3⟩ := strict H HI.out HG.out
            exact ⟨HI.out.blo.1, q1.1, HI.out.bhi.1, q2, q3⟩
          have HGL : Hid (gap lo' (midF lo' hi') < gap lo' hi' ∧ gap (midF lo' hi') hi' < gap lo' hi') := gap_left fl fm fh s1 s2
          clear fl fm fh s1 s2 e8 e9 e10
          by_cases hc : k < cntF al of (midF lo' hi') j
          · have HCC : Hid (k < cntF al of (midF lo' hi') j) := hc
            generalize cntF al of (midF lo' hi') j = c at hc ⊢
            have hc' : (k : Int) < (c : Int) := by omega
            go_wp2
            go_roundw
            case rel => exact ⟨_, _, _, rfl, rfl, Reach.left HRR.out HG.out HCC.out, rfl⟩
            case measure => exact HGL.out.1
          · have HCC : Hid (cntF al of (midF lo' hi') j ≤ k) := Nat.le_of_not_lt hc
            generalize cntF al of (midF lo' hi') j = c at hc ⊢
            have hc' : ¬ (k : Int) < (c : Int) := by omega
            go_wp2
            go_roundw
            case rel => exact ⟨_, _, _, rfl, rfl, Reach.right HRR.out HG.out HCC.out, rfl⟩
            case measure => exact HGL.out.2
        · have hg : (FloatKind.f64.format.order T ep == some .gt) = false := by assumption
          have HG : Hid (gtF (pf .sub hi' lo') (epsF al of j) = false) := HT.out _ (by rw [← HTT.out]; exact hg)
          go_ret
          exact ⟨_, _, rfl, ⟨lo', hi', HRR.out, HG.out, rfl⟩, rfl⟩
end Go.Proofs.Qxb6605993a
