/- tridiagonalEigenvalue as plain functions of words, and as a relation: which intervals the bisection comes to. -/
import Derived.Test.Qxb6605993aCountF
namespace Go.Proofs.Qxb6605993a
open Ieee

def minW (x y : Nat) : Nat := match double.order x y with
  | some .lt => x
  | some .gt => y
  | some .eq => if (FloatKind.f64.decode x).neg then x else y
  | none => 0
def maxW (x y : Nat) : Nat := match double.order x y with
  | some .lt => y
  | some .gt => x
  | some .eq => if (FloatKind.f64.decode x).neg then y else x
  | none => 0

/-- the radius of the i-th disc -/
def rad1 (of : List Nat) (i : Nat) : Nat := if 0 < i then pf .add 0 (absF (of.getD (i - 1) 0)) else 0
def radF (of : List Nat) (m i : Nat) : Nat := if i + 1 < m then pf .add (rad1 of i) (absF (of.getD i 0)) else rad1 of i
def gLo (al of : List Nat) (m : Nat) : Nat → Nat
  | 0 => al.getD 0 0
  | i + 1 => minW (gLo al of m i) (pf .sub (al.getD i 0) (radF of m i))
def gHi (al of : List Nat) (m : Nat) : Nat → Nat
  | 0 => al.getD 0 0
  | i + 1 => maxW (gHi al of m i) (pf .add (al.getD i 0) (radF of m i))
def lo0F (al of : List Nat) (m : Nat) : Nat := pf .sub (gLo al of m m) 4607182418800017408
def hi0F (al of : List Nat) (m : Nat) : Nat := pf .add (gHi al of m m) 4607182418800017408
def epsF (al of : List Nat) (m : Nat) : Nat := pf .mul 4372995238176751616 (maxW (absF (lo0F al of m)) (absF (hi0F al of m)))
def midF (lo hi : Nat) : Nat := pf .add lo (pf .quo (pf .sub hi lo) 4611686018427387904)

/-- the intervals -/
inductive Reach (al of : List Nat) (m k : Nat) : Nat → Nat → Prop
  | start : Reach al of m k (lo0F al of m) (hi0F al of m)
  | left {lo hi : Nat} (h : Reach al of m k lo hi) (g : gtF (pf .sub hi lo) (epsF al of m) = true) (c : k < cntF al of (midF lo hi) m) : Reach al of m k lo (midF lo hi)
  | right {lo hi : Nat} (h : Reach al of m k lo hi) (g : gtF (pf .sub hi lo) (epsF al of m) = true) (c : cntF al of (midF lo hi) m ≤ k) : Reach al of m k (midF lo hi) hi
/-- the answers -/
def Answer (al of : List Nat) (m k th : Nat) : Prop := ∃ lo hi, Reach al of m k lo hi ∧ gtF (pf .sub hi lo) (epsF al of m) = false ∧ th = midF lo hi
end Go.Proofs.Qxb6605993a
