/- NaNs under one name: the operations on words, whatever bits a NaN bears. Plain: no Go text. -/
import Derived.Test.Qxb6605993aFlE
import Derived.Laws.FloatArith
namespace Go.Proofs.Qxb6605993a
open Ieee

def NAN : Nat := 9221120237041090561
def isN (x : Nat) : Bool := decide (9218868437227405312 < x % 9223372036854775808)
/-- the word, a NaN's bits under one name -/
def cn (x : Nat) : Nat := if isN x then NAN else x

theorem isN_NAN : isN NAN = true := by decide
theorem cn_of_isN {x : Nat} (h : isN x = true) : cn x = NAN := by unfold cn; rw [if_pos h]
theorem cn_of_not {x : Nat} (h : isN x = false) : cn x = x := by unfold cn; rw [if_neg (by rw [h]; decide)]
theorem isN_cn (x : Nat) : isN (cn x) = isN x := by
  cases h : isN x
  · rw [cn_of_not h, h]
  · rw [cn_of_isN h, isN_NAN]
theorem cn_cn (x : Nat) : cn (cn x) = cn x := by
  cases h : isN x
  · rw [cn_of_not h, cn_of_not h]
  · rw [cn_of_isN h, cn_of_isN isN_NAN]
theorem cn_NAN : cn NAN = NAN := cn_of_isN isN_NAN
theorem cn_fin {x : Nat} (h : Fl.Fin x) : cn x = x := by
  apply cn_of_not
  unfold isN
  unfold Fl.Fin Fl.rung at h
  exact decide_eq_false (by omega)
theorem cn_lt {x : Nat} (h : x < 18446744073709551616) : cn x < 18446744073709551616 := by
  unfold cn; split
  · decide
  · exact h

theorem read_nan {x : Nat} (h : isN x = true) : ∃ s t, double.read x = .nan s t := by
  unfold isN at h
  have h' := of_decide_eq_true h
  unfold Format.read
  simp only [Fl.d_sw, Fl.d_binade, Fl.d_inf]
  rw [if_neg (by omega), if_neg (by omega), if_neg (by omega)]
  exact ⟨_, _, rfl⟩

theorem add_nan {x y : Nat} (h : isN x = true ∨ isN y = true) : double.add x y = none := by
  rcases h with h | h <;> obtain ⟨s, t, e⟩ := read_nan h <;> unfold Format.add <;> rw [e]
  · cases double.read y <;> rfl
  · cases double.read x <;> rfl
theorem sub_nan {x y : Nat} (h : isN x = true ∨ isN y = true) : double.sub x y = none := by
  rcases h with h | h <;> obtain ⟨s, t, e⟩ := read_nan h <;> unfold Format.sub <;> rw [e]
  · cases double.read y <;> rfl
  · cases double.read x <;> rfl
theorem mul_nan {x y : Nat} (h : isN x = true ∨ isN y = true) : double.mul x y = none := by
  rcases h with h | h <;> obtain ⟨s, t, e⟩ := read_nan h <;> unfold Format.mul <;> rw [e]
  · cases double.read y <;> rfl
  · cases double.read x <;> rfl
theorem div_nan {x y : Nat} (h : isN x = true ∨ isN y = true) : double.div x y = none := by
  rcases h with h | h <;> obtain ⟨s, t, e⟩ := read_nan h <;> unfold Format.div <;> rw [e]
  · cases double.read y <;> rfl
  · cases double.read x <;> rfl
theorem sqrt_nan {x : Nat} (h : isN x = true) : double.sqrt x = none := by
  obtain ⟨s, t, e⟩ := read_nan h
  unfold Format.sqrt
  rw [e]; rfl
theorem order_nan {x y : Nat} (h : isN x = true ∨ isN y = true) : double.order x y = none := by
  rcases h with h | h <;> obtain ⟨s, t, e⟩ := read_nan h <;> unfold Format.order <;> rw [e]
  · cases double.read y <;> rfl
  · cases double.read x <;> rfl

theorem floatBits_nan {op : BinOp} {x y : Nat} (h : isN x = true ∨ isN y = true) : floatBits op .f64 x y = none := by
  unfold floatBits
  split
  · exact add_nan h
  · exact sub_nan h
  · exact mul_nan h
  · exact div_nan h
  · rfl

theorem floatBits_cn (op : BinOp) (x y : Nat) : floatBits op .f64 (cn x) (cn y) = floatBits op .f64 x y := by
  cases hx : isN x
  · cases hy : isN y
    · rw [cn_of_not hx, cn_of_not hy]
    · rw [floatBits_nan (Or.inr hy), floatBits_nan (Or.inr (by rw [isN_cn]; exact hy))]
  · rw [floatBits_nan (Or.inl hx), floatBits_nan (Or.inl (by rw [isN_cn]; exact hx))]

theorem order_cn (x y : Nat) : double.order (cn x) (cn y) = double.order x y := by
  cases hx : isN x
  · cases hy : isN y
    · rw [cn_of_not hx, cn_of_not hy]
    · rw [order_nan (Or.inr hy), order_nan (Or.inr (by rw [isN_cn]; exact hy))]
  · rw [order_nan (Or.inl hx), order_nan (Or.inl (by rw [isN_cn]; exact hx))]

/-! ### a valid result is no NaN -/
theorem write_notN (d : Datum) (h : d.isNaN = false) : isN (double.write d) = false := by
  have key : ∀ s k, k ≤ 9218868437227405312 → isN (double.word s k) = false := by
    intro s k hk
    unfold isN
    have := Fl.word_rung s (k := k) (by omega)
    unfold Fl.rung at this
    rw [this]
    exact decide_eq_false (by omega)
  cases d with
  | number s m p =>
    show isN (double.nearest s m p) = false
    unfold Format.nearest
    dsimp only
    split
    · exact key _ _ (by omega)
    · rw [Fl.d_inf]; exact key _ _ (Nat.min_le_right _ _)
  | infinity s =>
    show isN (double.word s double.infRung) = false
    rw [Fl.d_inf]; exact key _ _ (Nat.le_refl _)
  | nan s t => cases h

theorem sum_notN {a b d : Datum} (h : a.sum b = some d) : d.isNaN = false := by
  cases a <;> cases b <;> simp [Datum.sum] at h
  · subst h; rfl
  · subst h; rfl
  · subst h; rfl
  · rw [← h.2]; rfl
theorem product_notN {a b d : Datum} (h : a.product b = some d) : d.isNaN = false := by
  cases a <;> cases b <;> simp [Datum.product] at h
  · subst h; rfl
  · rw [← h.2]; rfl
  · rw [← h.2]; rfl
  · subst h; rfl
theorem quotient_notN {n : Nat} {a b d : Datum} (h : a.quotient n b = some d) : d.isNaN = false := by
  cases a with
  | nan _ _ => cases b <;> simp [Datum.quotient] at h
  | infinity s =>
    cases b with
    | nan _ _ => simp [Datum.quotient] at h
    | infinity t => simp [Datum.quotient] at h
    | number t m p => simp only [Datum.quotient, Option.some.injEq] at h; subst h; rfl
  | number s m p =>
    cases b with
    | nan _ _ => simp [Datum.quotient] at h
    | infinity t => simp only [Datum.quotient, Option.some.injEq] at h; subst h; rfl
    | number t k q =>
      simp only [Datum.quotient] at h
      split at h
      · split at h
        · cases h
        · cases h; rfl
      · cases h; rfl
theorem root_notN {n : Nat} {a d : Datum} (h : a.root n = some d) : d.isNaN = false := by
  cases a with
  | nan _ _ => simp [Datum.root] at h
  | infinity s =>
    simp only [Datum.root] at h
    split at h
    · cases h
    · cases h; rfl
  | number s m p =>
    simp only [Datum.root] at h
    split at h
    · cases h; rfl
    · split at h
      · cases h
      · cases h; rfl

theorem map_notN {o : Option Datum} (ho : ∀ d, o = some d → d.isNaN = false) {r : Nat} (h : o.map double.write = some r) : isN r = false := by
  cases o with
  | none => cases h
  | some d => cases h; exact write_notN d (ho d rfl)

theorem floatBits_notN {op : BinOp} {x y r : Nat} (h : floatBits op .f64 x y = some r) : isN r = false := by
  unfold floatBits at h
  split at h
  · exact map_notN (fun d hd => sum_notN hd) h
  · exact map_notN (fun d hd => sum_notN hd) h
  · exact map_notN (fun d hd => product_notN hd) h
  · exact map_notN (fun d hd => quotient_notN hd) h
  · cases h
theorem sqrt_notN {x r : Nat} (h : double.sqrt x = some r) : isN r = false := map_notN (fun _ hd => root_notN hd) h

theorem floatBits_lt {op : BinOp} {x y r : Nat} (h : floatBits op .f64 x y = some r) : r < 18446744073709551616 := by
  have := floatBits_wf h
  simpa [Lit.wf] using this

/-! ### the operations with one NaN -/
def pf (op : BinOp) (x y : Nat) : Nat := (floatBits op .f64 x y).getD NAN
def psq (x : Nat) : Nat := (double.sqrt x).getD NAN
def absF (x : Nat) : Nat := x % 9223372036854775808

theorem pf_cn (op : BinOp) (x y : Nat) : pf op (cn x) (cn y) = pf op x y := by unfold pf; rw [floatBits_cn]
theorem cn_pf (op : BinOp) (x y : Nat) : cn (pf op x y) = pf op x y := by
  unfold pf
  cases h : floatBits op .f64 x y with
  | none => exact cn_NAN
  | some r => exact cn_of_not (floatBits_notN h)
theorem pf_lt (op : BinOp) (x y : Nat) : pf op x y < 18446744073709551616 := by
  unfold pf
  cases h : floatBits op .f64 x y with
  | none => exact (by decide : NAN < 18446744073709551616)
  | some r => exact floatBits_lt h
theorem isN_absF (x : Nat) : isN (absF x) = isN x := by unfold isN absF; rw [Nat.mod_mod]
theorem absF_cn (x : Nat) : absF (cn x) = cn (absF x) := by
  cases h : isN x
  · rw [cn_of_not h, cn_of_not (by rw [isN_absF]; exact h)]
  · rw [cn_of_isN h, cn_of_isN (by rw [isN_absF]; exact h)]; decide
theorem absF_lt (x : Nat) : absF x < 18446744073709551616 := by unfold absF; omega
theorem psq_cn (x : Nat) : psq (cn x) = psq x := by
  cases h : isN x
  · rw [cn_of_not h]
  · unfold psq
    rw [sqrt_nan h, sqrt_nan (by rw [isN_cn]; exact h)]
theorem cn_psq (x : Nat) : cn (psq x) = psq x := by
  unfold psq
  cases h : double.sqrt x with
  | none => exact cn_NAN
  | some r => exact cn_of_not (sqrt_notN h)

/-- the nan that the model hands back -/
theorem cut_isN (x y t : Nat) : isN (Question.cut (.nanBits .f64 x y) t) = true ∧ Question.cut (.nanBits .f64 x y) t < 18446744073709551616 := by
  have e : Question.cut (.nanBits .f64 x y) t = (t % 2) * 9223372036854775808 + 9218868437227405312 + 1 + (t / 2) % 4503599627370495 := rfl
  rw [e]
  unfold isN
  have h1 : (t / 2) % 4503599627370495 < 4503599627370495 := Nat.mod_lt _ (by omega)
  have h2 : t % 2 = 0 ∨ t % 2 = 1 := by omega
  generalize (t / 2) % 4503599627370495 = c at *
  rcases h2 with h2 | h2 <;> rw [h2]
  · exact ⟨decide_eq_true (by omega), by omega⟩
  · exact ⟨decide_eq_true (by omega), by omega⟩

end Go.Proofs.Qxb6605993a
