/- How the walk runs floats, NaNs included; the leaves: math.Abs, math.Sqrt, zzAbs, zzMax, zzMin, zzWithin. -/
import Derived.Test.Qxb6605993aRows
import Derived.Test.Qxb6605993aCn
import Derived.WalkKit
import Derived.ProofKit
import Derived.OpenShut
import Derived.WalkSpells
import Derived.WalkLawsBesides
import Derived.Deep.Draws
namespace Go.Proofs.Qxb6605993a
open Go.ChangeShapes Go.WideShapes Go.ChangeAt Go.RowKit

def fv (op : BinOp) (x y : Nat) (w : World) : Nat := (floatBits op .f64 x y).getD (Question.cut (.nanBits .f64 x y) (w.tape w.drawn (.nanBits .f64 x y)))
def dn (op : BinOp) (x y : Nat) : Nat := if (floatBits op .f64 x y).isSome then 0 else 1

theorem cn_fv (op : BinOp) (x y : Nat) (w : World) : cn (fv op x y w) = pf op x y := by
  unfold fv pf
  cases h : floatBits op .f64 x y with
  | none => exact cn_of_isN (cut_isN x y _).1
  | some r => exact cn_of_not (floatBits_notN h)
theorem fv_lt (op : BinOp) (x y : Nat) (w : World) : fv op x y w < 18446744073709551616 := by
  unfold fv
  cases h : floatBits op .f64 x y with
  | none => exact (cut_isN x y _).2
  | some r => exact floatBits_lt h

theorem run_store_float {P : Program} (w : World) (a : Addr) (m : Mode) (k : FloatKind) (b : Nat) : (store a (.float k b) m).run P w = stored P w a (.float k b) m := run_store P w a _ m rfl

section
variable {P : Program} (w : World) (t : TypeId) (x y : Nat)
theorem run_fadd : (binOp .add t (.float .f64 x) (.float .f64 y)).run P w = .ok (.float .f64 (fv .add x y w)) (w.drewN (dn .add x y)) := by
  unfold fv dn
  cases h : floatBits .add .f64 x y with
  | some r => exact run_float_arith w _ _ _ _ _ _ h
  | none =>
    have h' : FloatKind.f64.format.add x y = none := h
    simp [binOp, Op.floatArith, h', Question.forced]
    rfl
theorem run_fsub : (binOp .sub t (.float .f64 x) (.float .f64 y)).run P w = .ok (.float .f64 (fv .sub x y w)) (w.drewN (dn .sub x y)) := by
  unfold fv dn
  cases h : floatBits .sub .f64 x y with
  | some r => exact run_float_arith w _ _ _ _ _ _ h
  | none =>
    have h' : FloatKind.f64.format.sub x y = none := h
    simp [binOp, Op.floatArith, h', Question.forced]
    rfl
theorem run_fmul : (binOp .mul t (.float .f64 x) (.float .f64 y)).run P w = .ok (.float .f64 (fv .mul x y w)) (w.drewN (dn .mul x y)) := by
  unfold fv dn
  cases h : floatBits .mul .f64 x y with
  | some r => exact run_float_arith w _ _ _ _ _ _ h
  | none =>
    have h' : FloatKind.f64.format.mul x y = none := h
    simp [binOp, Op.floatArith, h', Question.forced]
    rfl
theorem run_fquo : (binOp .quo t (.float .f64 x) (.float .f64 y)).run P w = .ok (.float .f64 (fv .quo x y w)) (w.drewN (dn .quo x y)) := by
  unfold fv dn
  cases h : floatBits .quo .f64 x y with
  | some r => exact run_float_arith w _ _ _ _ _ _ h
  | none =>
    have h' : FloatKind.f64.format.div x y = none := h
    simp [binOp, Op.floatArith, h', Question.forced]
    rfl
end
attribute [local go_sem] run_fadd run_fsub run_fmul run_fquo

theorem u64_abs (x : Nat) (hx : x < 18446744073709551616) : bits .andNot .u64 (x : Int) 9223372036854775808 = ((absF x : Nat) : Int) := by
  have := u64_andNot_nat x 9223372036854775808 hx (by omega)
  rw [show ((9223372036854775808 : Nat) : Int) = 9223372036854775808 from rfl] at this
  rw [this, show 18446744073709551615 - 9223372036854775808 = 2 ^ 63 - 1 from rfl, Nat.and_two_pow_sub_one_eq_mod]
  rfl

theorem call37 (x : Nat) (w : World) : (callFunc 37 #[.float .f64 x]).run Try.prog w = .ok (.value (.int .u64 x)) w := by
  rw [run_callFunc_extern Try.func37 (by kernel_rfl) (by kernel_rfl) (by kernel_rfl) (e := Extern.MathFloatBits.float64bits) (by kernel_rfl)]
  rfl
theorem call36 (x : Nat) (w : World) : (callFunc 36 #[.int .u64 (x : Int)]).run Try.prog w = .ok (.value (.float .f64 x)) w := by
  rw [run_callFunc_extern Try.func36 (by kernel_rfl) (by kernel_rfl) (by kernel_rfl) (e := Extern.MathFloatBits.float64frombits) (by kernel_rfl)]
  rfl

theorem abs29 (x : Nat) (hx : x < 18446744073709551616) (w : World) :
    Calls Try.prog 29 #[.float .f64 x] w fun e w' => e = .returned (.float .f64 (absF x)) ∧ w' = w := by
  have h1 := call37 x
  have h2 := u64_abs x hx
  have h3 := call36 (absF x)
  go_enter Try.func29, Try.ntmps29
  go_wp2
  go_ret
  exact ⟨rfl, rfl⟩

def fsq (x : Nat) (w : World) : Nat := (Ieee.double.sqrt x).getD (Question.cut (.nanBits .f64 x x) (w.tape w.drawn (.nanBits .f64 x x)))
def dsq (x : Nat) : Nat := if (Ieee.double.sqrt x).isSome then 0 else 1
theorem cn_fsq (x : Nat) (w : World) : cn (fsq x w) = psq x := by
  unfold fsq psq
  cases h : Ieee.double.sqrt x with
  | none => exact cn_of_isN (cut_isN x x _).1
  | some r => exact cn_of_not (sqrt_notN h)
theorem fsq_lt (x : Nat) (w : World) : fsq x w < 18446744073709551616 := by
  unfold fsq
  cases h : Ieee.double.sqrt x with
  | none => exact (cut_isN x x _).2
  | some r => exact Ieee.Format.sqrt_lt _ h
theorem call43 (x : Nat) (w : World) : (callFunc 43 #[.float .f64 x]).run Try.prog w = .ok (.value (.float .f64 (fsq x w))) (w.drewN (dsq x)) := by
  rw [run_callFunc_extern Try.func43 (by kernel_rfl) (by kernel_rfl) (by kernel_rfl) (e := Extern.MathSqrt.sqrt) (by kernel_rfl)]
  have e : Extern.MathSqrt.sqrt #[.float .f64 x] = (match FloatKind.f64.format.sqrt x with
    | some r => pure (.float .f64 r)
    | none => do pure (.float .f64 (← choose (.nanBits .f64 x x)))) := rfl
  rw [e]
  unfold fsq dsq
  cases h : Ieee.double.sqrt x with
  | some r =>
    have h' : FloatKind.f64.format.sqrt x = some r := h
    rw [h']
    rfl
  | none =>
    have h' : FloatKind.f64.format.sqrt x = none := h
    rw [h']
    simp [Question.forced]
    rfl

theorem sqrt41 (x : Nat) (w : World) :
    Calls Try.prog 41 #[.float .f64 x] w fun e w' => e = .returned (.float .f64 (fsq x w)) ∧ w' = w.drewN (dsq x) := by
  have h1 := call43 x
  go_enter Try.func41, Try.ntmps41
  go_wp2
  go_ret
  exact ⟨rfl, rfl⟩

/-! ### SplitMix64 -/
def mix1 (z : Nat) : Nat := ((z ^^^ (z / 1073741824)) * 13787848793156543929) % 18446744073709551616
def mix2 (z : Nat) : Nat := ((z ^^^ (z / 134217728)) * 10723151780598845931) % 18446744073709551616
def mix3 (z : Nat) : Nat := z ^^^ (z / 2147483648)
def mixN (z : Nat) : Nat := mix3 (mix2 (mix1 z))

theorem xor_lt {a b : Nat} (ha : a < 18446744073709551616) (hb : b < 18446744073709551616) : a ^^^ b < 18446744073709551616 := Nat.xor_lt_two_pow (n := 64) ha hb
theorem mix1_lt (z : Nat) : mix1 z < 18446744073709551616 := Nat.mod_lt _ (by omega)
theorem mix2_lt (z : Nat) : mix2 z < 18446744073709551616 := Nat.mod_lt _ (by omega)
theorem mix3_lt {z : Nat} (h : z < 18446744073709551616) : mix3 z < 18446744073709551616 := xor_lt h (by omega)
theorem mixN_lt (z : Nat) : mixN z < 18446744073709551616 := mix3_lt (mix2_lt _)

theorem wrap_nat (n : Nat) : IntKind.u64.wrap (n : Int) = ((n % 18446744073709551616 : Nat) : Int) := by
  simp [IntKind.wrap, IntKind.signed, IntKind.bits]

theorem step_eq (z d c : Nat) (hz : z < 18446744073709551616) : IntKind.u64.wrap (bits .xor .u64 (z : Int) ((z : Int) / (d : Int)) * (c : Int)) = (((z ^^^ (z / d)) * c % 18446744073709551616 : Nat) : Int) := by
  have h : z / d ≤ z := Nat.div_le_self _ _
  rw [show ((z : Int) / (d : Int)) = ((z / d : Nat) : Int) from rfl, u64_xor_nat z (z / d) hz (by omega), ← Int.natCast_mul, wrap_nat]

theorem mix_eq1 (z : Nat) (hz : z < 18446744073709551616) : IntKind.u64.wrap (bits BinOp.xor IntKind.u64 (z : Int) ((z : Int) / 1073741824) * 13787848793156543929) = ((mix1 z : Nat) : Int) :=
  step_eq z 1073741824 13787848793156543929 hz
theorem mix_eq2 (z : Nat) (hz : z < 18446744073709551616) : IntKind.u64.wrap (bits BinOp.xor IntKind.u64 (z : Int) ((z : Int) / 134217728) * 10723151780598845931) = ((mix2 z : Nat) : Int) :=
  step_eq z 134217728 10723151780598845931 hz
theorem mix_eq3 (z : Nat) (hz : z < 18446744073709551616) : bits BinOp.xor IntKind.u64 (z : Int) ((z : Int) / 2147483648) = ((mix3 z : Nat) : Int) := by
  rw [show ((z : Int) / 2147483648) = ((z / 2147483648 : Nat) : Int) from rfl, u64_xor_nat z (z / 2147483648) hz (by omega)]
  rfl

theorem ret_int {k : IntKind} {a b : Int} (h : a = b) : Ending.returned (.int k a) = .returned (.int k b) := by rw [h]

theorem mix39 (z : Nat) (hz : z < 18446744073709551616) (w : World) :
    Calls Try.prog 39 #[.int .u64 z] w fun e w' => e = .returned (.int .u64 (mixN z)) ∧ w' = w := by
  go_enter Try.func39, Try.ntmps39
  go_wp2
  go_ret
  exact ⟨ret_int (by rw [mix_eq1 z hz, mix_eq2 _ (mix1_lt z), mix_eq3 _ (mix2_lt _)]; rfl), rfl⟩
end Go.Proofs.Qxb6605993a
