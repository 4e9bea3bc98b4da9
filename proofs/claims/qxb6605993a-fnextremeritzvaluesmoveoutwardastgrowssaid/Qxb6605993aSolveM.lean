/- The memory of solveShifted while it runs. -/
import Derived.Test.Qxb6605993aFB
import Derived.Test.Qxb6605993aSolveF
namespace Go.Proofs.Qxb6605993a
open Go.RowKit

/-- the six rows: the matrix, the right side, the three rows of the factor; of what was there only the right side may have turned -/
structure Mem (w wr : World) (A O Bb U0 U1 U2 : Nat) (al of bs u0 u1 u2 : List Nat) : Prop where
  a : FB wr A al
  o : FB wr O of
  b : FB wr Bb bs
  p : FB wr U0 u0
  q : FB wr U1 u1
  r : FB wr U2 u2
  g : w.grownBy wr (some Bb)
  nb : w.heap.size ≤ U0 ∧ w.heap.size ≤ U1 ∧ w.heap.size ≤ U2
  na : A ≠ Bb ∧ A ≠ U0 ∧ A ≠ U1 ∧ A ≠ U2
  no : O ≠ Bb ∧ O ≠ U0 ∧ O ≠ U1 ∧ O ≠ U2
  nu : Bb ≠ U0 ∧ Bb ≠ U1 ∧ Bb ≠ U2 ∧ U0 ≠ U1 ∧ U0 ≠ U2 ∧ U1 ≠ U2

section
variable {w wr : World} {A O Bb U0 U1 U2 : Nat} {al of bs u0 u1 u2 : List Nat}
theorem Mem.drewN (h : Mem w wr A O Bb U0 U1 U2 al of bs u0 u1 u2) (n : Nat) : Mem w (wr.drewN n) A O Bb U0 U1 U2 al of bs u0 u1 u2 :=
  ⟨h.a, h.o, h.b, h.p, h.q, h.r, grown_drewN h.g n, h.nb, h.na, h.no, h.nu⟩
theorem Mem.drew (h : Mem w wr A O Bb U0 U1 U2 al of bs u0 u1 u2) : Mem w wr.drew A O Bb U0 U1 U2 al of bs u0 u1 u2 :=
  ⟨h.a, h.o, h.b, h.p, h.q, h.r, grown_drew h.g, h.nb, h.na, h.no, h.nu⟩
theorem Mem.setB (h : Mem w wr A O Bb U0 U1 U2 al of bs u0 u1 u2) (k v : Nat) : Mem w (wr.setCell ⟨Bb, k, none⟩ (.float .f64 v)) A O Bb U0 U1 U2 al of (bs.set k v) u0 u1 u2 :=
  ⟨h.a.other h.na.1 _, h.o.other h.no.1 _, h.b.set k v, h.p.other h.nu.1.symm _, h.q.other h.nu.2.1.symm _, h.r.other h.nu.2.2.1.symm _, grown_set h.g k _, h.nb, h.na, h.no, h.nu⟩
theorem grown_new {w w' : World} {row : Option Nat} (h : w.grownBy w' row) {a : Addr} (ha : w.heap.size ≤ a.block) (v : Value) : w.grownBy (w'.setCell a v) row :=
  ⟨h.os, h.tape, h.output, by rw [size_setCell]; exact h.size, fun i hi hne => by
    rw [Below.heap_setCell _ _ _ _ (by intro e; omega)]; exact h.block i hi hne⟩
theorem Mem.setP (h : Mem w wr A O Bb U0 U1 U2 al of bs u0 u1 u2) (k v : Nat) : Mem w (wr.setCell ⟨U0, k, none⟩ (.float .f64 v)) A O Bb U0 U1 U2 al of bs (u0.set k v) u1 u2 :=
  ⟨h.a.other h.na.2.1 _, h.o.other h.no.2.1 _, h.b.other h.nu.1 _, h.p.set k v, h.q.other h.nu.2.2.2.1.symm _, h.r.other h.nu.2.2.2.2.1.symm _, grown_new h.g h.nb.1 _, h.nb, h.na, h.no, h.nu⟩
theorem Mem.setQ (h : Mem w wr A O Bb U0 U1 U2 al of bs u0 u1 u2) (k v : Nat) : Mem w (wr.setCell ⟨U1, k, none⟩ (.float .f64 v)) A O Bb U0 U1 U2 al of bs u0 (u1.set k v) u2 :=
  ⟨h.a.other h.na.2.2.1 _, h.o.other h.no.2.2.1 _, h.b.other h.nu.2.1 _, h.p.other h.nu.2.2.2.1 _, h.q.set k v, h.r.other h.nu.2.2.2.2.2.symm _, grown_new h.g h.nb.2.1 _, h.nb, h.na, h.no, h.nu⟩
theorem Mem.setR (h : Mem w wr A O Bb U0 U1 U2 al of bs u0 u1 u2) (k v : Nat) : Mem w (wr.setCell ⟨U2, k, none⟩ (.float .f64 v)) A O Bb U0 U1 U2 al of bs u0 u1 (u2.set k v) :=
  ⟨h.a.other h.na.2.2.2 _, h.o.other h.no.2.2.2 _, h.b.other h.nu.2.2.1 _, h.p.other h.nu.2.2.2.2.1 _, h.q.other h.nu.2.2.2.2.2 _, h.r.set k v, grown_new h.g h.nb.2.2 _, h.nb, h.na, h.no, h.nu⟩
end

/-- the world behind three new rows -/
theorem Mem.init {w : World} {A O Bb m : Nat} {al of bs : List Nat} (hA : FB w A al) (hO : FB w O of) (hB : FB w Bb bs) (nA : A ≠ Bb) (nO : O ≠ Bb) (U0 U1 U2 : Nat)
    (hU : (U0 = w.heap.size ∧ U1 = w.heap.size + 1 ∧ U2 = w.heap.size + 2) ∨ (U0 = w.heap.size ∧ U2 = w.heap.size + 1 ∧ U1 = w.heap.size + 2) ∨ (U1 = w.heap.size ∧ U0 = w.heap.size + 1 ∧ U2 = w.heap.size + 2) ∨ (U1 = w.heap.size ∧ U2 = w.heap.size + 1 ∧ U0 = w.heap.size + 2) ∨ (U2 = w.heap.size ∧ U0 = w.heap.size + 1 ∧ U1 = w.heap.size + 2) ∨ (U2 = w.heap.size ∧ U1 = w.heap.size + 1 ∧ U0 = w.heap.size + 2)) :
    Mem w (((w.alloc (.cells (madeCells #[.float .f64 0] m) 22)).alloc (.cells (madeCells #[.float .f64 0] m) 22)).alloc (.cells (madeCells #[.float .f64 0] m) 22)) A O Bb U0 U1 U2 al of bs (List.replicate m 0) (List.replicate m 0) (List.replicate m 0) := by
  have lA := hA.lt
  have lO := hO.lt
  have lB := hB.lt
  have f0 := ((FB.made w m).alloc (.cells (madeCells #[.float .f64 0] m) 22)).alloc (.cells (madeCells #[.float .f64 0] m) 22)
  have f1 := (FB.made (w.alloc (.cells (madeCells #[.float .f64 0] m) 22)) m).alloc (.cells (madeCells #[.float .f64 0] m) 22)
  have f2 := FB.made ((w.alloc (.cells (madeCells #[.float .f64 0] m) 22)).alloc (.cells (madeCells #[.float .f64 0] m) 22)) m
  have s1 : (w.alloc (.cells (madeCells #[.float .f64 0] m) 22)).heap.size = w.heap.size + 1 := by simp
  have s2 : ((w.alloc (.cells (madeCells #[.float .f64 0] m) 22)).alloc (.cells (madeCells #[.float .f64 0] m) 22)).heap.size = w.heap.size + 2 := by simp
  rw [s1] at f1
  rw [s2] at f2
  have g : w.grownBy (((w.alloc (.cells (madeCells #[.float .f64 0] m) 22)).alloc (.cells (madeCells #[.float .f64 0] m) 22)).alloc (.cells (madeCells #[.float .f64 0] m) 22)) (some Bb) :=
    ((World.grownBy_alloc w _ _).trans (World.grownBy_alloc _ _ _)).trans (World.grownBy_alloc _ _ _)
  rcases hU with ⟨rfl, rfl, rfl⟩ | ⟨rfl, rfl, rfl⟩ | ⟨rfl, rfl, rfl⟩ | ⟨rfl, rfl, rfl⟩ | ⟨rfl, rfl, rfl⟩ | ⟨rfl, rfl, rfl⟩
  · exact ⟨((hA.alloc _).alloc _).alloc _, ((hO.alloc _).alloc _).alloc _, ((hB.alloc _).alloc _).alloc _, f0, f1, f2, g, by omega, by omega, by omega, by omega⟩
  · exact ⟨((hA.alloc _).alloc _).alloc _, ((hO.alloc _).alloc _).alloc _, ((hB.alloc _).alloc _).alloc _, f0, f2, f1, g, by omega, by omega, by omega, by omega⟩
  · exact ⟨((hA.alloc _).alloc _).alloc _, ((hO.alloc _).alloc _).alloc _, ((hB.alloc _).alloc _).alloc _, f1, f0, f2, g, by omega, by omega, by omega, by omega⟩
  · exact ⟨((hA.alloc _).alloc _).alloc _, ((hO.alloc _).alloc _).alloc _, ((hB.alloc _).alloc _).alloc _, f2, f0, f1, g, by omega, by omega, by omega, by omega⟩
  · exact ⟨((hA.alloc _).alloc _).alloc _, ((hO.alloc _).alloc _).alloc _, ((hB.alloc _).alloc _).alloc _, f1, f2, f0, g, by omega, by omega, by omega, by omega⟩
  · exact ⟨((hA.alloc _).alloc _).alloc _, ((hO.alloc _).alloc _).alloc _, ((hB.alloc _).alloc _).alloc _, f2, f1, f0, g, by omega, by omega, by omega, by omega⟩


theorem gtF_cn (x y : Nat) : gtF (cn x) (cn y) = gtF x y := by unfold gtF; rw [order_cn]
theorem zeroF_cn (x : Nat) : zeroF (cn x) = zeroF x := by
  unfold zeroF
  have : cn 0 = 0 := by decide
  rw [← this, order_cn, this]

section
variable {al of : List Nat} {th ti m k d0 d1 d2 x y y1 n1 n2 : Nat} {bs' U0' U1' U2' : List Nat}
theorem swap_test (hyf : Fl.Fin y) : gtF (absF y) (absF (cn d0)) = gtF (absF y) (absF d0) := by
  rw [absF_cn, ← gtF_cn (absF y) (absF d0), cn_fin (x := absF y) (by unfold Fl.Fin Fl.rung absF at *; rw [Nat.mod_mod]; exact hyf)]

theorem nx2_eq (hy1 : y1 = of.getD (k + 1) 0) (hy1f : k + 2 < m → Fl.Fin y1) (hn2 : n2 = if k + 2 < m then y1 else 0) : cn n2 = nx2 of m k := by
  unfold nx2
  subst hn2
  split
  · rename_i h; rw [cn_fin (hy1f h), hy1]
  · decide

theorem round_yes (hy : y = of.getD k 0) (hyf : Fl.Fin y) (hx : x = al.getD (k + 1) 0) (hn1 : cn n1 = pf .sub x th) (hn2 : cn n2 = nx2 of m k)
    (hsw : gtF (absF y) (absF d0) = true) :
    round al of th ti m k (St.mk (cn d0) (cn d1) (cn d2) (bs'.map cn) U0' U1' U2') = elim k ti (cn y) (cn n1) (cn n2) (cn d0) (cn d1) (cn d2) (((bs'.set k (bs'.getD (k + 1) 0)).set (k + 1) (bs'.getD k 0)).map cn) U0' U1' U2' := by
  unfold round
  have e : nx0 of k = y := hy.symm
  have e1 : nx1 al th k = cn n1 := by unfold nx1; rw [← hx, hn1]
  rw [e, e1, ← hn2, swap_test hyf, hsw, if_pos rfl, cn_fin hyf, map_cn_set, map_cn_set]
  show elim _ _ _ _ _ _ _ _ (swapAt (bs'.map cn) k) _ _ _ = _
  unfold swapAt
  rw [map_cn_getD, map_cn_getD]
theorem round_no (hy : y = of.getD k 0) (hyf : Fl.Fin y) (hx : x = al.getD (k + 1) 0) (hn1 : cn n1 = pf .sub x th) (hn2 : cn n2 = nx2 of m k)
    (hsw : gtF (absF y) (absF d0) = false) :
    round al of th ti m k (St.mk (cn d0) (cn d1) (cn d2) (bs'.map cn) U0' U1' U2') = elim k ti (cn d0) (cn d1) (cn d2) (cn y) (cn n1) (cn n2) (bs'.map cn) U0' U1' U2' := by
  unfold round
  have e : nx0 of k = y := hy.symm
  have e1 : nx1 al th k = cn n1 := by unfold nx1; rw [← hx, hn1]
  rw [e, e1, ← hn2, swap_test hyf, hsw, if_neg (by decide), cn_fin hyf]
end

theorem cn_sub_mul (a b c : Nat) (w1 w2 : World) : cn (fv .sub a (fv .mul b c w1) w2) = pf .sub a (pf .mul b c) := by
  rw [cn_fv, ← pf_cn, cn_fv, ← pf_cn .sub a, cn_pf]

theorem start_st {al of bs : List Nat} {th m x0 y0 : Nat} (hx : x0 = al.getD 0 0) (hy : y0 = of.getD 0 0) (hm : 1 < m) (hyf : Fl.Fin y0) (w : World) :
    St.mk (cn (fv .sub x0 th w)) (cn y0) (cn 0) (bs.map cn) ((List.replicate m 0).map cn) ((List.replicate m 0).map cn) ((List.replicate m 0).map cn) = start al of th m (bs.map cn) := by
  have c0 : cn 0 = 0 := by decide
  unfold start
  rw [cn_fv, cn_fin hyf, c0, List.map_replicate, c0, if_pos hm, ← hx, ← hy]

theorem start_st1 {al of bs : List Nat} {th m x0 : Nat} (hx : x0 = al.getD 0 0) (hm : ¬ 1 < m) (w : World) :
    St.mk (cn (fv .sub x0 th w)) (cn 0) (cn 0) (bs.map cn) ((List.replicate m 0).map cn) ((List.replicate m 0).map cn) ((List.replicate m 0).map cn) = start al of th m (bs.map cn) := by
  have c0 : cn 0 = 0 := by decide
  unfold start
  rw [cn_fv, c0, List.map_replicate, c0, if_neg hm, ← hx]

/-- the round's end -/
theorem elim_eq {k tt e0 e1 e2 f0 f1 f2 p l v : Nat} {bs2 u0 u1 u2 : List Nat} {w1 w2 w3 w4 : World} (hp : cn p = if zeroF (cn e0) then tt else cn e0) (hl : cn l = pf .quo f0 p)
    (hv : cn v = pf .sub (bs2.getD (k + 1) 0) (pf .mul l (bs2.getD k 0))) :
    St.mk (cn (fv .sub f1 (fv .mul l e1 w1) w2)) (cn (fv .sub f2 (fv .mul l e2 w3) w4)) (cn 0) ((bs2.set (k + 1) v).map cn) ((u0.set k p).map cn) ((u1.set k e1).map cn) ((u2.set k e2).map cn) =
      elim k tt (cn e0) (cn e1) (cn e2) (cn f0) (cn f1) (cn f2) (bs2.map cn) (u0.map cn) (u1.map cn) (u2.map cn) := by
  have c0 : cn 0 = 0 := by decide
  have hl' : pf .quo (cn f0) (cn p) = cn l := by rw [pf_cn, hl]
  unfold elim
  simp only [← hp, hl', map_cn_set, map_cn_getD, c0, hv]
  congr 1
  · rw [cn_fv, ← pf_cn, cn_fv, ← pf_cn .mul]
  · rw [cn_fv, ← pf_cn, cn_fv, ← pf_cn .mul]
  · rw [← pf_cn .sub (bs2.getD (k + 1) 0), cn_pf, pf_cn .mul]

theorem vint {k : IntKind} {a b : Int} (h : a = b) : Value.int k a = .int k b := by rw [h]

/-- where the back substitution begins -/
theorem back_start {al of bs bs' u0 u1 u2 : List Nat} {th m k d0 d1 d2 p : Nat}
    (hs : St.mk (cn d0) (cn d1) (cn d2) (bs'.map cn) (u0.map cn) (u1.map cn) (u2.map cn) = rounds al of th (tinyF th) m (start al of th m (bs.map cn)) k)
    (hp : cn p = (if zeroF (cn d0) then tinyF th else cn d0)) (hk : k = m - 1) :
    solveF al of th m (bs.map cn) = backs ((u0.set (m - 1) p).map cn) (u1.map cn) (u2.map cn) m (bs'.map cn) m := by
  unfold solveF
  subst hk
  simp only [← hs, lastP, map_cn_set, hp]

/-- one row of it -/
theorem back_step {bs3 u0 u1 u2 : List Nat} {U0' U1' U2' B' : List Nat} {m i s1 s2 v0 v1 v2 q0 q1 q2 : Nat} (hb : bs3.map cn = backs U0' U1' U2' m B' (m - 1 - i))
    (hv0 : v0 = bs3.getD i 0) (hv1 : v1 = bs3.getD (i + 1) 0) (hv2 : v2 = bs3.getD (i + 2) 0) (hq0 : q0 = u0.getD i 0) (hq1 : q1 = u1.getD i 0) (hq2 : q2 = u2.getD i 0)
    (hs1 : cn s1 = (if i + 1 < m then pf .sub v0 (pf .mul q1 v1) else cn v0)) (hs2 : cn s2 = (if i + 2 < m then pf .sub s1 (pf .mul q2 v2) else cn s1)) (w : World)
    (e0 : U0' = u0.map cn) (e1 : U1' = u1.map cn) (e2 : U2' = u2.map cn) (hi : i < m) :
    (bs3.set i (fv .quo s2 q0 w)).map cn = backs U0' U1' U2' m B' (m - 1 - i + 1) := by
  subst e0; subst e1; subst e2
  have e : m - 1 - (m - 1 - i) = i := by omega
  rw [map_cn_set, cn_fv]
  unfold backs
  rw [← hb, e]
  congr 1
  unfold back1
  simp only [map_cn_getD, ← hv0, ← hv1, ← hv2, ← hq0, ← hq1, ← hq2]
  have t1 : (if i + 1 < m then pf .sub (cn v0) (pf .mul (cn q1) (cn v1)) else cn v0) = cn s1 := by
    rw [hs1]; split
    · rw [pf_cn .mul, ← cn_pf .mul, pf_cn, cn_pf]
    · rfl
  rw [t1]
  have t2 : (if i + 2 < m then pf .sub (cn s1) (pf .mul (cn q2) (cn v2)) else cn s1) = cn s2 := by
    rw [hs2]; split
    · rw [pf_cn .mul, ← cn_pf .mul, pf_cn, cn_pf]
    · rfl
  rw [t2, pf_cn]

/-- all rows keep their lengths -/
def Lens (s : St) (n m : Nat) : Prop := s.b.length = n ∧ s.u0.length = m ∧ s.u1.length = m ∧ s.u2.length = m
theorem elim_lens (i ti c0 c1 c2 n0 n1 n2 : Nat) (b u0 u1 u2 : List Nat) (n m : Nat) (h : b.length = n ∧ u0.length = m ∧ u1.length = m ∧ u2.length = m) : Lens (elim i ti c0 c1 c2 n0 n1 n2 b u0 u1 u2) n m := by
  unfold Lens elim
  simpa using h
theorem round_lens {al of : List Nat} {th ti M i : Nat} {s : St} {n m : Nat} (h : Lens s n m) : Lens (round al of th ti M i s) n m := by
  unfold round
  split
  · exact elim_lens _ _ _ _ _ _ _ _ _ _ _ _ _ _ ⟨by simpa [swapAt] using h.1, h.2.1, h.2.2.1, h.2.2.2⟩
  · exact elim_lens _ _ _ _ _ _ _ _ _ _ _ _ _ _ h
theorem rounds_lens {al of : List Nat} {th ti M : Nat} {s : St} {n m : Nat} (h : Lens s n m) (k : Nat) : Lens (rounds al of th ti M s k) n m := by
  induction k with
  | zero => exact h
  | succ k ih => exact round_lens ih
theorem start_lens (al of : List Nat) (th m : Nat) (b : List Nat) : Lens (start al of th m b) b.length m := by
  unfold Lens start; simp

/-- the lengths of the rows in memory, from the state that they stand for -/
theorem lens_of {d0 d1 d2 : Nat} {bs' u0 u1 u2 : List Nat} {al of : List Nat} {th m k : Nat} {bs : List Nat}
    (h : St.mk (cn d0) (cn d1) (cn d2) (bs'.map cn) (u0.map cn) (u1.map cn) (u2.map cn) = rounds al of th (tinyF th) m (start al of th m (bs.map cn)) k) :
    bs'.length = bs.length ∧ u0.length = m ∧ u1.length = m ∧ u2.length = m := by
  have := rounds_lens (start_lens al of th m (bs.map cn)) k (al := al) (of := of) (th := th) (ti := tinyF th) (M := m)
  rw [← h] at this
  simpa [Lens] using this

end Go.Proofs.Qxb6605993a
