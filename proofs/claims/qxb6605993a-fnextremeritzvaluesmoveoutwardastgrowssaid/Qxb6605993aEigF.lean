/- tridiagonalEigenvector as a plain function of words. -/
import Derived.Test.Qxb6605993aStream
import Derived.Test.Qxb6605993aDot
import Derived.Test.Qxb6605993aSolveF
namespace Go.Proofs.Qxb6605993a

/-- the stream's state ahead of the k-th draw -/
def seedS (m : Nat) : Nat := mixN (fnvTo seedBytes 14695981039346656037 ^^^ m)
def stateS (m : Nat) : Nat → Nat
  | 0 => seedS m
  | k + 1 => nextS (stateS m k)
/-- the k-th entry of the start vector -/
def randF (m k : Nat) : Nat := pf .sub (pf .mul 4611686018427387904 (drawF (mixN (stateS m (k + 1))))) 4607182418800017408
def randTo (m : Nat) : Nat → List Nat
  | 0 => List.replicate m 0
  | k + 1 => (randTo m k).set k (randF m k)
/-- one step of inverse iteration -/
def stepF (al of : List Nat) (th m : Nat) (b : List Nat) : List Nat :=
  scaleTo (solveF al of th m b) (pf .quo 4607182418800017408 (psq (dotF (solveF al of th m b) (solveF al of th m b) m))) m
def iterF (al of : List Nat) (th m : Nat) : Nat → List Nat
  | 0 => randTo m m
  | k + 1 => stepF al of th m (iterF al of th m k)
def eigF (al of : List Nat) (th m : Nat) : List Nat := iterF al of th m 2

theorem randTo_length (m k : Nat) : (randTo m k).length = m := by
  induction k with
  | zero => simp [randTo]
  | succ k ih => simp [randTo, ih]
theorem backs_length (u0 u1 u2 : List Nat) (m : Nat) (b : List Nat) (k : Nat) : (backs u0 u1 u2 m b k).length = b.length := by
  induction k with
  | zero => rfl
  | succ k ih => simp [backs, ih]
theorem elim_b (i ti c0 c1 c2 n0 n1 n2 : Nat) (b u0 u1 u2 : List Nat) : (elim i ti c0 c1 c2 n0 n1 n2 b u0 u1 u2).b.length = b.length := by
  simp [elim]
theorem rounds_b (al of : List Nat) (th ti m : Nat) (s : St) (k : Nat) : (rounds al of th ti m s k).b.length = s.b.length := by
  induction k with
  | zero => rfl
  | succ k ih =>
    unfold rounds round
    split
    · rw [elim_b]; simp [swapAt, ih]
    · rw [elim_b, ih]
theorem solveF_length (al of : List Nat) (th m : Nat) (b : List Nat) : (solveF al of th m b).length = b.length := by
  unfold solveF
  rw [backs_length, rounds_b]; rfl
theorem stepF_length (al of : List Nat) (th m : Nat) (b : List Nat) : (stepF al of th m b).length = b.length := by
  unfold stepF
  rw [scaleTo_length, solveF_length]
theorem iterF_length (al of : List Nat) (th m k : Nat) : (iterF al of th m k).length = m := by
  induction k with
  | zero => exact randTo_length m m
  | succ k ih => unfold iterF; rw [stepF_length, ih]
end Go.Proofs.Qxb6605993a
