/- No draw of the start vectors of length up to 4096 is nearly 1/2: by the inverse of the mixer, and one computation. Plain: no Go text. -/
import Derived.Test.Qxb6605993aEigF
import Derived.KernelRfl
namespace Go.Proofs.Qxb6605993a.Draws

def frc {α : Type} (n : Nat) (k : Nat → α) : α := match n with | 0 => k 0 | m + 1 => k (m + 1)
theorem frc_eq {α : Type} (n : Nat) (k : Nat → α) : frc n k = k n := by cases n <;> rfl

/-- the place of the word from which the mixer makes u, in steps of the stream, in cells of 4096 -/
def cellT (u : Nat) : Nat :=
  frc (u ^^^ (u / 2147483648) ^^^ (u / 4611686018427387904)) fun a =>
  frc (a * 3573116690164977347 % 18446744073709551616) fun b =>
  frc (b ^^^ (b / 134217728) ^^^ (b / 18014398509481984)) fun c =>
  frc (c * 10871156337175269513 % 18446744073709551616) fun d =>
  frc (d ^^^ (d / 1073741824) ^^^ (d / 1152921504606846976)) fun e =>
  e * 17428512612931826493 % 18446744073709551616 / 4096

/-- the place of the seed of length m, likewise -/
def cellS (m : Nat) : Nat :=
  frc (6980902192717205947 ^^^ m) fun z =>
  frc ((z ^^^ (z / 1073741824)) * 13787848793156543929 % 18446744073709551616) fun a =>
  frc ((a ^^^ (a / 134217728)) * 10723151780598845931 % 18446744073709551616) fun b =>
  frc (b ^^^ (b / 2147483648)) fun c =>
  c * 17428512612931826493 % 18446744073709551616 / 4096

def genT (s : Nat) : Nat → List Nat → List Nat
  | 0, acc => acc
  | n + 1, acc => frc (cellT (s + n)) fun t => genT s n (t :: acc)
def genS : Nat → List Nat → List Nat
  | 0, acc => acc
  | n + 1, acc => frc (cellS (n + 1)) fun t => frc ((t + 1) % 4503599627370496) fun t' => genS n (t :: t' :: acc)

def part (b : Nat) : List Nat → List Nat → List Nat → (List Nat → List Nat → Bool) → Bool
  | [], z, o, k => k z o
  | a :: l, z, o, k => match a / b % 2 with
    | 0 => part b l (a :: z) o k
    | _ + 1 => part b l z (a :: o) k

def disj : Nat → Nat → List Nat → List Nat → Bool
  | 0, _, A, B => A.isEmpty || B.isEmpty
  | n + 1, b, A, B => match A with
    | [] => true
    | _ :: _ => match B with
      | [] => true
      | _ :: _ => part b A [] [] fun A0 A1 => part b B [] [] fun B0 B1 => frc (b / 2) fun b' => disj n b' A0 B0 && disj n b' A1 B1

set_option maxRecDepth 1000000 in
theorem tested0 : disj 52 2251799813685248 (genT 9223372036854771712 2048 []) (genS 4096 []) = true := by kernel_rfl
set_option maxRecDepth 1000000 in
theorem tested1 : disj 52 2251799813685248 (genT 9223372036854773760 2048 []) (genS 4096 []) = true := by kernel_rfl
set_option maxRecDepth 1000000 in
theorem tested2 : disj 52 2251799813685248 (genT 9223372036854775808 2048 []) (genS 4096 []) = true := by kernel_rfl
set_option maxRecDepth 1000000 in
theorem tested3 : disj 52 2251799813685248 (genT 9223372036854777856 2048 []) (genS 4096 []) = true := by kernel_rfl
set_option maxRecDepth 1000000 in
theorem tested4 : disj 52 2251799813685248 (genT 9223372036854779904 2048 []) (genS 4096 []) = true := by kernel_rfl
end Go.Proofs.Qxb6605993a.Draws
