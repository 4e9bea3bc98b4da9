/- solveShifted as a plain function of words (NaNs under one name). -/
import Derived.Test.Qxb6605993aCn
namespace Go.Proofs.Qxb6605993a
open Ieee

def gtF (x y : Nat) : Bool := double.order x y == some .gt
def zeroF (x : Nat) : Bool := double.order x 0 == some .eq

/-- the state ahead of a round of the elimination -/
structure St where
  c0 : Nat
  c1 : Nat
  c2 : Nat
  b : List Nat
  u0 : List Nat
  u1 : List Nat
  u2 : List Nat

/-- the next row -/
def nx0 (of : List Nat) (i : Nat) : Nat := of.getD i 0
def nx1 (al : List Nat) (th i : Nat) : Nat := pf .sub (al.getD (i + 1) 0) th
def nx2 (of : List Nat) (m i : Nat) : Nat := if i + 2 < m then of.getD (i + 1) 0 else 0

def swapAt (b : List Nat) (i : Nat) : List Nat := (b.set i (b.getD (i + 1) 0)).set (i + 1) (b.getD i 0)

/-- one round, the six numbers already in order -/
def elim (i ti : Nat) (c0 c1 c2 n0 n1 n2 : Nat) (b u0 u1 u2 : List Nat) : St :=
  let p := if zeroF c0 then ti else c0
  let l := pf .quo n0 p
  { c0 := pf .sub n1 (pf .mul l c1), c1 := pf .sub n2 (pf .mul l c2), c2 := 0,
    b := b.set (i + 1) (pf .sub (b.getD (i + 1) 0) (pf .mul l (b.getD i 0))),
    u0 := u0.set i p, u1 := u1.set i c1, u2 := u2.set i c2 }

def round (al of : List Nat) (th ti m i : Nat) (s : St) : St :=
  if gtF (absF (nx0 of i)) (absF s.c0) then
    elim i ti (nx0 of i) (nx1 al th i) (nx2 of m i) s.c0 s.c1 s.c2 (swapAt s.b i) s.u0 s.u1 s.u2
  else
    elim i ti s.c0 s.c1 s.c2 (nx0 of i) (nx1 al th i) (nx2 of m i) s.b s.u0 s.u1 s.u2

def start (al of : List Nat) (th m : Nat) (b : List Nat) : St :=
  { c0 := pf .sub (al.getD 0 0) th, c1 := if 1 < m then of.getD 0 0 else 0, c2 := 0, b := b, u0 := List.replicate m 0, u1 := List.replicate m 0, u2 := List.replicate m 0 }

def rounds (al of : List Nat) (th ti m : Nat) (s : St) : Nat → St
  | 0 => s
  | i + 1 => round al of th ti m i (rounds al of th ti m s i)

/-- the pivots, the last one too -/
def lastP (s : St) (ti m : Nat) : List Nat := s.u0.set (m - 1) (if zeroF s.c0 then ti else s.c0)

/-- one row of the back substitution -/
def back1 (u0 u1 u2 : List Nat) (m i : Nat) (b : List Nat) : Nat :=
  let s0 := b.getD i 0
  let s1 := if i + 1 < m then pf .sub s0 (pf .mul (u1.getD i 0) (b.getD (i + 1) 0)) else s0
  let s2 := if i + 2 < m then pf .sub s1 (pf .mul (u2.getD i 0) (b.getD (i + 2) 0)) else s1
  pf .quo s2 (u0.getD i 0)

/-- behind k rows of the back substitution -/
def backs (u0 u1 u2 : List Nat) (m : Nat) (b : List Nat) : Nat → List Nat
  | 0 => b
  | k + 1 => (backs u0 u1 u2 m b k).set (m - 1 - k) (back1 u0 u1 u2 m (m - 1 - k) (backs u0 u1 u2 m b k))

/-- theta's rounding error, in place of a pivot of 0 -/
def mx1 (th : Nat) : Nat := if gtF (absF th) 4607182418800017408 then absF th else 4607182418800017408
def tinyF (th : Nat) : Nat := pf .mul 4372995238176751616 (mx1 th)

def solveF (al of : List Nat) (th m : Nat) (b : List Nat) : List Nat :=
  let s := rounds al of th (tinyF th) m (start al of th m b) (m - 1)
  backs (lastP s (tinyF th) m) s.u1 s.u2 m s.b m

end Go.Proofs.Qxb6605993a
