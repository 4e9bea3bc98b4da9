/- The walk of tridiagonalEigenvector. -/
import Derived.Test.Qxb6605993aSolve1
import Derived.Test.Qxb6605993aEigF
namespace Go.Proofs.Qxb6605993a
open Go.ChangeShapes Go.WideShapes Go.ChangeAt Go.RowKit
attribute [local go_sem] run_fadd run_fsub run_fmul run_fquo run_store_float

theorem build52 (x : Int) (w : World) : (Instr.buildSlice 52 1 #[(0, .int .u64 x)]).run Try.prog w = .ok (.slice (some ⟨w.heap.size, 0, none⟩) 1 1) (w.alloc (.cells #[.int .u64 x] 44)) := by kernel_rfl

/-- both cases of solveShifted -/
theorem solve32 (A O Bb m ca lo co cb th : Nat) (po : Option Addr) (al of bs : List Nat) (w : World) (hA : FB w A al) (hB : FB w Bb bs) (nA : A ≠ Bb)
    (hO : 1 < m → po = some ⟨O, 0, none⟩ ∧ FB w O of ∧ O ≠ Bb ∧ m ≤ lo + 1 ∧ lo ≤ of.length)
    (hm : 1 ≤ m) (hmx : m ≤ 1048576) (la : m ≤ al.length) (lb : bs.length = m) (hth : Fl.Fin th) (th64 : th < 18446744073709551616) (h64 : W64 bs) (ho : ∀ j, j + 1 < m → Fl.Fin (of.getD j 0)) (o64 : W64 of) :
    Calls Try.prog 32 #[.slice (some ⟨A, 0, none⟩) m ca, .slice po lo co, .float .f64 th, .slice (some ⟨Bb, 0, none⟩) m cb] w fun e w' =>
      ∃ bs', e = .returned (.tuple #[]) ∧ FB w' Bb bs' ∧ bs'.map cn = solveF al of th m (bs.map cn) ∧ W64 bs' ∧ w.grownBy w' (some Bb) := by
  by_cases h : 1 < m
  · obtain ⟨rfl, h1, h2, h3, h4⟩ := hO h
    exact solve32a A O Bb m ca lo co cb th al of bs w hA h1 hB nA h2 (by omega) hmx la h3 h4 lb hth th64 h64 ho o64
  · obtain rfl : m = 1 := by omega
    exact solve32b A Bb ca lo co cb th po al of bs w hA hB nA la lb hth th64 h64

theorem wrapm (m : Nat) (h : m ≤ 1048576) : IntKind.u64.wrap (m : Int) = (m : Int) := by rw [wrap_nat, Nat.mod_eq_of_lt (by omega)]

theorem w64_replicate (m : Nat) : W64 (List.replicate m 0) := by
  intro x hx
  rw [List.eq_of_mem_replicate hx]; decide

theorem below_drewN2 {w W2 : World} {X n : Nat} (h : Below w.heap.size w W2) (hX : X = w.heap.size) (k : Nat) (v : Value) : Below w.heap.size w ((W2.drewN n).setCell ⟨X, k, none⟩ v) :=
  (below_drewN h n).setCell (by show w.heap.size ≤ X; omega) v

theorem rand_eq {m k r : Nat} {w1 w2 : World} (hr : cn r = drawF (mixN (nextS (stateS m k)))) : cn (fv .sub (fv .mul 4611686018427387904 r w1) 4607182418800017408 w2) = randF m k := by
  have e1 : cn 4611686018427387904 = 4611686018427387904 := by decide
  have e2 : cn 4607182418800017408 = 4607182418800017408 := by decide
  rw [cn_fv, ← pf_cn, cn_fv, e2, ← pf_cn .mul, e1, hr]
  rfl

set_option maxRecDepth 100000 in
set_option maxHeartbeats 4000000 in
theorem eig27 (A O m ca lo co th : Nat) (po : Option Addr) (al of : List Nat) (w : World) (hA : FB w A al)
    (hO : 1 < m → po = some ⟨O, 0, none⟩ ∧ FB w O of ∧ m ≤ lo + 1 ∧ lo ≤ of.length)
    (hm : 1 ≤ m) (hmx : m ≤ 1048576) (la : m ≤ al.length) (hth : Fl.Fin th) (th64 : th < 18446744073709551616) (ho : ∀ j, j + 1 < m → Fl.Fin (of.getD j 0)) (o64 : W64 of) :
    Calls Try.prog 27 #[.slice (some ⟨A, 0, none⟩) m ca, .slice po lo co, .float .f64 th] w fun e w' =>
      ∃ X xs, e = .returned (.slice (some ⟨X, 0, none⟩) m m) ∧ w.heap.size ≤ X ∧ FB w' X xs ∧ xs.map cn = eigF al of th m ∧ W64 xs ∧ Below w.heap.size w w' := by
  have hmk := make25 m hmx
  have hbs := build52
  have hwm := wrapm m hmx
  go_enter Try.func27, Try.ntmps27
  go_wp2_with fail
  have hs0 : ((w.alloc (Obj.cells (madeCells #[Value.float FloatKind.f64 0] m) 22)).alloc (Obj.cells #[Value.int IntKind.u64 ↑m] 44)).heap.size = w.heap.size + 2 := by simp
  have hX0 : FB ((w.alloc (Obj.cells (madeCells #[Value.float FloatKind.f64 0] m) 22)).alloc (Obj.cells #[Value.int IntKind.u64 ↑m] 44)) w.heap.size (List.replicate m 0) := (FB.made w m).alloc _
  have hb0 : Below w.heap.size w ((w.alloc (Obj.cells (madeCells #[Value.float FloatKind.f64 0] m) 22)).alloc (Obj.cells #[Value.int IntKind.u64 ↑m] 44)) := ((Below.refl _ _).alloc (Nat.le_refl _) _).alloc (by simp) _
  have hk0 : ((w.alloc (Obj.cells (madeCells #[Value.float FloatKind.f64 0] m) 22)).alloc (Obj.cells #[Value.int IntKind.u64 ↑m] 44)).cell? ⟨w.heap.size + 1, 0, none⟩ = some (.int .u64 m) := by simp [go_sem]
  refine (new30 _ (w.heap.size + 1) m (by omega) (by rw [hs0]; omega) hk0).mono ?_
  rintro e W ⟨S, rfl, hS1, hS2, hSc, hSf, hSb⟩
  rw [hs0] at hS1 hSb
  have hXW : FB W w.heap.size (List.replicate m 0) := hX0.below hSb (by omega)
  have hbW : Below w.heap.size w W := hb0.trans (hSb.mono (by omega))
  clear hs0 hX0 hb0 hk0 hSb hmk hbs hwm
  obtain ⟨X, hXe⟩ : ∃ X, X = w.heap.size := ⟨_, rfl⟩
  rw [← hXe] at hXW ⊢
  have hXS : X ≠ S := by omega
  have HXe : Hid (X = w.heap.size) := hXe
  clear hXe
  have HBW : Hid (Below w.heap.size w W) := hbW
  clear hbW
  go_wp2
  go_loopw [20] (fun i wr => ∃ (k : Nat) (xs : List Nat), k ≤ m ∧ i = .int .i64 k ∧ FB wr X xs ∧ xs.map cn = randTo m k ∧ W64 xs ∧ wr.cell? ⟨S, 0, none⟩ = some (.int .u64 (stateS m k)) ∧ wr.frozen? ⟨S, 0, none⟩ = false ∧ Below w.heap.size w wr) (fun i _ => m - (intOf i).toNat)
  case atStart => exact ⟨0, List.replicate m 0, Nat.zero_le _, rfl, hXW, by rw [List.map_replicate]; rfl, w64_replicate m, hSc, hSf, HBW.out⟩
  case round =>
    obtain ⟨k, xs, hk, rfl, hF, hxs, h64, hc, hf, hb⟩ := hrel
    have HXS : Hid (xs.map cn = randTo m k) := hxs
    clear hxs hXW hSc hSf HBW
    have lx : xs.length = m := by
      have h1 := congrArg List.length HXS.out
      rw [List.length_map, randTo_length] at h1; exact h1
    by_cases hlt : k < m
    · go_wp2_with fail
      refine (float31 S (stateS m k) wr hc hf).mono ?_
      rintro e W2 ⟨r, n, rfl, hr, hr64, hW2⟩
      have hF2 : FB W2 X xs := by rw [hW2]; exact (hF.other (p := ⟨S, 0, none⟩) hXS _).drewN n
      have hc2 : W2.cell? ⟨S, 0, none⟩ = some (.int .u64 (stateS m (k + 1))) := by rw [hW2]; exact World.cell?_setCell_same _ _ _ hc
      have hf2 : W2.frozen? ⟨S, 0, none⟩ = false := by rw [hW2, World.frozen?_drewN, World.frozen?_setCell]; exact hf
      have hb2 : Below w.heap.size w W2 := by rw [hW2]; exact below_drewN (hb.setCell (p := ⟨S, 0, none⟩) (by have := HXe.out; show w.heap.size ≤ S; omega) _) n
      clear hW2 hF hc hf hb
      have HR : Hid (cn r = drawF (mixN (nextS (stateS m k)))) := hr
      clear hr
      have c1 := hF2.cell (show k < xs.length by omega)
      have f1 := hF2.frozen k
      generalize xs.getD k 0 = xk at c1
      go_wp2
      go_roundw
      case rel =>
        refine ⟨k + 1, _, by omega, by go_num, (hF2.drewN _).set k _, ?_, h64.set k (fv_lt _ _ _ _), ?_, ?_, below_drewN2 hb2 HXe.out k _⟩
        · rw [map_cn_set, HXS.out, rand_eq HR.out]; rfl
        · rw [World.cell?_setCell_other _ _ _ _ (by simp)]; exact hc2
        · rw [World.frozen?_setCell]; exact hf2
      case measure => simp [intOf]; omega
    · obtain rfl : k = m := by omega
      have hA' : FB wr A al := hA.below hb hA.lt
      clear hc hf
      have HF : Hid (FB wr X xs) := hF
      have HB : Hid (Below w.heap.size w wr) := hb
      clear hF hb
      go_wp2
      obtain ⟨w1, hw1⟩ : ∃ v, v = wr := ⟨_, rfl⟩
      rw [← hw1]
      go_loopw [31] (fun i wq => ∃ (j : Nat) (ys : List Nat), j ≤ 2 ∧ i = .int .i64 j ∧ FB wq X ys ∧ ys.map cn = iterF al of th k j ∧ W64 ys ∧ Below w.heap.size w wq) (fun i _ => 2 - (intOf i).toNat)
      case atStart => exact ⟨0, xs, by omega, rfl, by rw [hw1]; exact HF.out, HXS.out, h64, by rw [hw1]; exact HB.out⟩
      case round =>
        obtain ⟨j, ys, hj, rfl, hF, hys, h64y, hb⟩ := hrel
        have HYS : Hid (ys.map cn = iterF al of th k j) := hys
        clear hys
        have ly : ys.length = k := by
          have h1 := congrArg List.length HYS.out
          rw [List.length_map, iterF_length] at h1; exact h1
        by_cases hlt : j < 2
        · have hlt' : (j : Int) < 2 := by omega
          have hxl := HXe.out
          have hAq : FB wr A al := hA.below hb hA.lt
          have hAX : A ≠ X := by have := hA.lt; omega
          have hOq : 1 < k → po = some ⟨O, 0, none⟩ ∧ FB wr O of ∧ O ≠ X ∧ k ≤ lo + 1 ∧ lo ≤ of.length := fun h => by
            obtain ⟨h1, h2, h3, h4⟩ := hO h
            exact ⟨h1, h2.below hb h2.lt, by have := h2.lt; omega, h3, h4⟩
          clear hxl
          go_wp2_with fail
          refine (solve32 A O X k ca lo co k th po al of ys wr hAq hF hAX hOq hm hmx la ly hth th64 h64y ho o64).mono ?_
          rintro e w2 ⟨bs', rfl, hF2, hbs, h642, hg2⟩
          have hb2 : Below w.heap.size w w2 := hb.grown hg2 hb.size (fun t ht => by have := Option.some.inj ht; have := HXe.out; omega)
          have HBS : Hid (bs'.map cn = solveF al of th k (ys.map cn)) := hbs
          have lb : bs'.length = k := by
            have h1 := congrArg List.length hbs
            rw [List.length_map, solveF_length, List.length_map] at h1; omega
          clear hbs hF hb hg2 hAq hOq
          go_wp2_with fail
          refine (norm34 X k k bs' w2 hF2 (by omega) hmx).mono ?_
          rintro e w3 ⟨r, n, rfl, hr, hr64, hw3⟩
          have HR : Hid (cn r = psq (dotF (bs'.map cn) (bs'.map cn) k)) := hr
          have hF3 : FB w3 X bs' := by rw [hw3]; exact hF2.drewN n
          have hb3 : Below w.heap.size w w3 := by rw [hw3]; exact below_drewN hb2 n
          clear hr hw3 hF2 hb2
          go_wp2_with fail
          refine (scale33 X k k _ bs' _ (hF3.drewN _) lb hmx h642).mono ?_
          rintro e w4 ⟨zs, rfl, hF4, hzs, h64z, hg4⟩
          have hb4 : Below w.heap.size w w4 := (below_drewN hb3 _).grown hg4 hb3.size (fun t ht => by have := Option.some.inj ht; have := HXe.out; omega)
          have HZS : Hid (zs.map cn = iterF al of th k (j + 1)) := by
            show zs.map cn = stepF al of th k (iterF al of th k j)
            rw [hzs, cn_fv, ← pf_cn, HR.out, show cn 4607182418800017408 = 4607182418800017408 by decide, HBS.out, HYS.out]
            rfl
          clear hzs hg4 hF3 hb3
          go_wp2
          go_roundw
          case rel => exact ⟨j + 1, zs, by omega, by go_num, hF4, HZS.out, h64z, hb4⟩
          case measure => simp [intOf]; omega
        · have hlt' : ¬ (j : Int) < 2 := by omega
          obtain rfl : j = 2 := by omega
          go_wp2
          go_ret
          exact ⟨X, rfl, by have := HXe.out; omega, ys, hF, HYS.out, h64y, hb⟩
end Go.Proofs.Qxb6605993a
