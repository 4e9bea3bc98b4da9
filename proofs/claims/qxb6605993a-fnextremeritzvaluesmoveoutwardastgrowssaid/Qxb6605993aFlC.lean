/- 'Format.nearest' at binary64; what a word stands for; the operations on finite words. -/
import Derived.Test.Qxb6605993aFlB
namespace Go.Proofs.Qxb6605993a.Fl
open Ieee

theorem d_least : double.leastPlace = -1074 := rfl
theorem d_binade : double.binade = 4503599627370496 := by decide
theorem d_inf : double.infRung = 9218868437227405312 := by decide
theorem d_sw : double.signWeight = 9223372036854775808 := by decide
theorem d_frac : double.fractionBits = 52 := rfl

theorem mag_lo {mag : Nat} (h : mag ≠ 0) (place : Int) : p2 (place + mag.log2) ≤ (mag : Rat) * p2 place := by
  have h1 : 2 ^ mag.log2 ≤ mag := Nat.log2_self_le h
  have h2 := Rat.natCast_le_natCast.2 h1
  rw [← p2_nat] at h2
  have := Rat.mul_le_mul_of_nonneg_right h2 (Rat.le_of_lt (p2_pos place))
  rw [p2_add]; grind
theorem mag_hi (mag : Nat) (place : Int) : (mag : Rat) * p2 place < p2 (place + mag.log2 + 1) := by
  have h1 : mag < 2 ^ (mag.log2 + 1) := Nat.lt_log2_self
  have h2 := Rat.natCast_lt_natCast.2 h1
  rw [← p2_nat] at h2
  have := Rat.mul_lt_mul_of_pos_right h2 (p2_pos place)
  have e : place + mag.log2 + 1 = ((mag.log2 + 1 : Nat) : Int) + place := by omega
  rw [e, p2_add]; exact this

theorem p2_52 : p2 52 = 4503599627370496 := by rw [show (52 : Int) = ((52 : Nat) : Int) from rfl, p2_nat]; rfl
theorem p2_53 : p2 53 = 9007199254740992 := by rw [show (53 : Int) = ((53 : Nat) : Int) from rfl, p2_nat]; rfl

theorem near_of (neg : Bool) (mag : Nat) (place last : Int) (hm : mag ≠ 0) (hl : last = max (place + mag.log2 - 52) (-1074)) :
    Near (last + 1074).toNat (Toward.even.cut neg (mag <<< (place - last).toNat) (last - place).toNat) ((mag : Rat) * p2 place) := by
  have hL : (((last + 1074).toNat : Nat) : Int) - 1074 = last := by omega
  have lo := mag_lo hm place
  have hi := mag_hi mag place
  have hc := cut_even neg (mag <<< (place - last).toNat) (last - place).toNat
  generalize hn : mag <<< (place - last).toNat = n at hc ⊢
  generalize hd : (last - place).toNat = drop at hc ⊢
  generalize Toward.even.cut neg n drop = c at hc ⊢
  -- n * p2 last = s * p2 drop
  have key : (n : Rat) * p2 last = (mag : Rat) * p2 place * p2 drop := by
    rw [← hn, ← hd, Nat.shiftLeft_eq, Rat.natCast_mul, ← p2_nat]
    by_cases h : place ≤ last
    · have e1 : ((place - last).toNat : Int) = 0 := by omega
      have e2 : (((last - place).toNat : Nat) : Int) = last - place := by omega
      rw [e1, e2, p2_zero]
      have : p2 last = p2 place * p2 (last - place) := by rw [← p2_add]; congr 1; omega
      rw [this]; grind
    · have e1 : (((place - last).toNat : Nat) : Int) = place - last := by omega
      have e2 : (((last - place).toNat : Nat) : Int) = 0 := by omega
      rw [e1, e2, p2_zero]
      have : p2 place = p2 (place - last) * p2 last := by rw [← p2_add]; congr 1; omega
      rw [this]; grind
  have pd := p2_pos (drop : Int)
  have pl := p2_pos last
  have pdn := p2_nat drop
  generalize hs : (mag : Rat) * p2 place = s at *
  constructor
  · by_cases h : last = -1074
    · left; omega
    · right
      rw [hL, ← p2_52, ← p2_add]
      have : place + mag.log2 = 52 + last := by omega
      rw [this] at lo; exact lo
  · rw [hL, ← p2_53, ← p2_add]
    have h3 := p2_mono (show place + mag.log2 + 1 ≤ 53 + last by omega)
    grind
  · rw [hL]
    have cast : ∀ a b : Nat, (2 * a * 2 ^ drop < 2 * b + 2 ^ drop → 2 * (a : Rat) * p2 drop < 2 * (b : Rat) + p2 drop) ∧ (2 * a * 2 ^ drop = 2 * b + 2 ^ drop → 2 * (a : Rat) * p2 drop = 2 * (b : Rat) + p2 drop) := by
      intro a b
      rw [pdn]
      constructor
      · intro h
        have := Rat.natCast_lt_natCast.2 h
        rw [Rat.natCast_mul, Rat.natCast_mul, Rat.natCast_add, Rat.natCast_mul] at this
        exact this
      · intro h
        have : ((2 * a * 2 ^ drop : Nat) : Rat) = ((2 * b + 2 ^ drop : Nat) : Rat) := by rw [h]
        rw [Rat.natCast_mul, Rat.natCast_mul, Rat.natCast_add, Rat.natCast_mul] at this
        exact this
    rcases hc.1 with h | ⟨h, p⟩
    · left
      have h1 := (cast _ _).1 h
      have h2 := Rat.mul_lt_mul_of_pos_right h1 pl
      refine Rat.lt_of_mul_lt_mul_right (c := p2 drop) ?_ (Rat.le_of_lt pd)
      grind
    · right
      refine ⟨?_, p⟩
      have h1 := (cast _ _).2 h
      have h2 : (2 * (c : Rat) * p2 drop) * p2 last = (2 * (n : Rat) + p2 drop) * p2 last := by rw [h1]
      have h3 : ((2 * (c : Rat) - 1) * p2 last) * p2 drop = (2 * s) * p2 drop := by grind
      have ne : p2 drop ≠ 0 := by grind
      grind
  · rw [hL]
    have cast : ∀ a b : Nat, (2 * b < 2 * a * 2 ^ drop + 2 ^ drop → 2 * (b : Rat) < 2 * (a : Rat) * p2 drop + p2 drop) ∧ (2 * b = 2 * a * 2 ^ drop + 2 ^ drop → 2 * (b : Rat) = 2 * (a : Rat) * p2 drop + p2 drop) := by
      intro a b
      rw [pdn]
      constructor
      · intro h
        have := Rat.natCast_lt_natCast.2 h
        rw [Rat.natCast_add, Rat.natCast_mul, Rat.natCast_mul, Rat.natCast_mul] at this
        exact this
      · intro h
        have : ((2 * b : Nat) : Rat) = ((2 * a * 2 ^ drop + 2 ^ drop : Nat) : Rat) := by rw [h]
        rw [Rat.natCast_add, Rat.natCast_mul, Rat.natCast_mul, Rat.natCast_mul] at this
        exact this
    rcases hc.2 with h | ⟨h, p⟩
    · left
      have h1 := (cast _ _).1 h
      have h2 := Rat.mul_lt_mul_of_pos_right h1 pl
      refine Rat.lt_of_mul_lt_mul_right (c := p2 drop) ?_ (Rat.le_of_lt pd)
      grind
    · right
      refine ⟨?_, p⟩
      have h1 := (cast _ _).2 h
      have h2 : (2 * (n : Rat)) * p2 last = (2 * (c : Rat) * p2 drop + p2 drop) * p2 last := by rw [h1]
      have h3 : ((2 * (c : Rat) + 1) * p2 last) * p2 drop = (2 * s) * p2 drop := by grind
      have ne : p2 drop ≠ 0 := by grind
      grind

theorem nearest_same (neg : Bool) (mag : Nat) (place : Int) (hm : mag ≠ 0) (q : Rat)
    (hq : q = (mag : Rat) * p2 place ∨ (18014398509481984 ≤ mag ∧ Same (p2 (place + 1)) q ((mag : Rat) * p2 place))) :
    ∃ R, double.nearest neg mag place = double.word neg (min R 9218868437227405312) ∧ IsRN q R := by
  have hn := near_of neg mag place _ hm rfl
  refine ⟨(max (place + mag.log2 - 52) (-1074) + 1074).toNat * 4503599627370496 + Toward.even.cut neg (mag <<< (place - max (place + mag.log2 - 52) (-1074)).toNat) (max (place + mag.log2 - 52) (-1074) - place).toNat, ?_, ?_⟩
  rotate_left
  · rcases hq with hq | ⟨hb, hq⟩
    · rw [hq]; exact hn.isRN
    · refine (Same.near hn ?_).isRN
      have h54 : 54 ≤ mag.log2 := by
        rw [Nat.le_log2 hm]; exact hb
      have e : ((((max (place + mag.log2 - 52) (-1074) + 1074).toNat : Nat) : Int) - 1074 - 1) = (((max (place + mag.log2 - 52) (-1074) - 1 - (place + 1)).toNat : Nat) : Int) + (place + 1) := by omega
      rw [e, p2_add]
      exact hq.scale _
  · unfold Format.nearest
    rw [if_neg hm]
    simp only [d_least, d_binade, d_inf, d_frac]
    rfl

theorem nearest_zero (neg : Bool) (place : Int) : double.nearest neg 0 place = double.word neg 0 := rfl

end Go.Proofs.Qxb6605993a.Fl
