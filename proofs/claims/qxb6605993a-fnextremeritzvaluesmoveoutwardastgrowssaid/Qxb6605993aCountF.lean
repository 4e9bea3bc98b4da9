/- eigenvaluesBelow as a plain function of words. -/
import Derived.Test.Qxb6605993aLeaf
namespace Go.Proofs.Qxb6605993a
open Ieee

def TP : Nat := 268231017195544690
def NTP : Nat := 9491603054050320498
/-- a pivot that is nearly 0 is taken as a small negative one -/
def clampF (d : Nat) : Nat := if ltF (absF d) 268231017195544690 then 9491603054050320498 else d
def pivN (a x o d : Nat) : Nat := pf .sub (pf .sub a x) (pf .quo (pf .mul o o) d)
/-- the pivots -/
def dF (al of : List Nat) (x : Nat) : Nat → Nat
  | 0 => clampF (pf .sub (al.getD 0 0) x)
  | i + 1 => clampF (pivN (al.getD (i + 1) 0) x (of.getD i 0) (dF al of x i))
/-- how many of the first n are negative -/
def cntF (al of : List Nat) (x : Nat) : Nat → Nat
  | 0 => 0
  | i + 1 => cntF al of x i + (if ltF (dF al of x i) 0 then 1 else 0)
end Go.Proofs.Qxb6605993a
