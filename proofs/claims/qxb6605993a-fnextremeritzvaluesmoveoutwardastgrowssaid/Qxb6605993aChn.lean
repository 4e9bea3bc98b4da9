/- The pivots of a shifted tridiagonal matrix, over the rationals with rounding: their signs. -/
import Derived.Test.Qxb6605993aFlE
namespace Go.Proofs.Qxb6605993a
open Ieee Fl

/-- the least pivot -/
def TV : Rat := ((7022238808055922 : Nat) : Rat) * p2 (-1016)
theorem rn_TV : RN TV TV := rn_repr _ _ (by omega) (by omega)
theorem TV_facts : 0 < TV ∧ TV ≤ p2 (-963) ∧ p2 (-964) ≤ TV := by
  have P := p2_pos (-1016)
  have e1 : p2 (-963) = p2 53 * p2 (-1016) := by rw [← p2_add]; rfl
  have e2 : p2 (-964) = p2 52 * p2 (-1016) := by rw [← p2_add]; rfl
  have n1 : p2 53 = ((9007199254740992 : Nat) : Rat) := by rw [show (53 : Int) = ((53 : Nat) : Int) from rfl, p2_nat]
  have n2 : p2 52 = ((4503599627370496 : Nat) : Rat) := by rw [show (52 : Int) = ((52 : Nat) : Int) from rfl, p2_nat]
  unfold TV
  rw [e1, e2, n1, n2]
  refine ⟨Rat.mul_pos (Rat.natCast_lt_natCast.2 (show 0 < 7022238808055922 by omega)) P, ?_, ?_⟩
  · exact Rat.mul_le_mul_of_nonneg_right (Rat.natCast_le_natCast.2 (by omega)) (Rat.le_of_lt P)
  · exact Rat.mul_le_mul_of_nonneg_right (Rat.natCast_le_natCast.2 (by omega)) (Rat.le_of_lt P)

/-- a pivot that is nearly 0 is taken as c -/
def Clamp (c r E : Rat) : Prop := (TV ≤ r ∧ E = r) ∨ (r ≤ -TV ∧ E = r) ∨ (-TV < r ∧ r < TV ∧ E = c)

structure Ch (c : Rat) (y o E : Nat → Rat) (m : Nat) : Prop where
  c0 : c = TV ∨ c = -TV
  zero : ∃ s, RN (y 0) s ∧ Clamp c s (E 0)
  succ : ∀ i, i + 1 < m → ∃ s q t r, RN (y (i + 1)) s ∧ RN (o i * o i) q ∧ RN (q / E i) t ∧ RN (s - t) r ∧ Clamp c r (E (i + 1))

theorem div_mono {q a b : Rat} (hq : 0 ≤ q) (ha : 0 < a) (hab : a ≤ b) : q / b ≤ q / a := by
  have hb : 0 < b := by grind
  have e1 : q / a * a = q := Rat.div_mul_cancel (by grind)
  have e2 : q / b * b = q := Rat.div_mul_cancel (by grind)
  generalize q / a = u at *
  generalize q / b = v at *
  apply Classical.byContradiction
  intro hc
  have h1 : u < v := by grind
  have h2 := Rat.mul_lt_mul_of_pos_right h1 ha
  have h3 : 0 ≤ v := by
    apply Classical.byContradiction
    intro h
    have := Rat.mul_lt_mul_of_pos_right (show v < 0 by grind) hb
    grind
  have h4 := Rat.mul_le_mul_of_nonneg_left hab h3
  grind
theorem div_pos0 {q a : Rat} (hq : 0 ≤ q) (ha : 0 < a) : 0 ≤ q / a := by
  have e1 : q / a * a = q := Rat.div_mul_cancel (by grind)
  generalize q / a = v at *
  apply Classical.byContradiction
  intro h
  have := Rat.mul_lt_mul_of_pos_right (show v < 0 by grind) ha
  grind
theorem sqn0 (o : Rat) : 0 ≤ o * o := by
  rcases Rat.le_total (a := 0) (b := o) with h | h
  · exact Rat.mul_nonneg h h
  · have := Rat.mul_nonneg (show 0 ≤ -o by grind) (show 0 ≤ -o by grind); grind

theorem Clamp.mono {c r E r' E' : Rat} (hc : c = TV ∨ c = -TV) (h : Clamp c r E) (h' : Clamp c r' E') (hr : r ≤ r') (hE : 0 < E) : 0 < E' ∧ E ≤ E' := by
  have := TV_facts.1
  unfold Clamp at *
  grind
theorem Clamp.pos {c r E : Rat} (hc : c = TV ∨ c = -TV) (h : Clamp c r E) (hE : 0 < E) : -TV < r ∧ TV ≤ E ∧ (E = r ∨ E = TV) := by
  have := TV_facts.1
  unfold Clamp at *
  grind

variable {c : Rat} {y y' o E E' : Nat → Rat} {m n : Nat}

/-- more on the diagonal: the pivots stay positive -/
theorem Ch.mono (h : Ch c y o E m) (h' : Ch c y' o E' m) (hy : ∀ i, i < m → y i ≤ y' i) (hn : n ≤ m) (hE : ∀ i, i < n → 0 < E i) (i : Nat) (hi : i < n) : 0 < E' i ∧ E i ≤ E' i := by
  induction i with
  | zero =>
    obtain ⟨s, r1, c1⟩ := h.zero
    obtain ⟨s', r1', c1'⟩ := h'.zero
    exact c1.mono h.c0 c1' (r1.mono r1' (hy 0 (by omega))) (hE 0 hi)
  | succ i ih =>
    obtain ⟨p, l⟩ := ih (by omega)
    obtain ⟨s, q, t, r, a1, a2, a3, a4, a5⟩ := h.succ i (by omega)
    obtain ⟨s', q', t', r', b1, b2, b3, b4, b5⟩ := h'.succ i (by omega)
    have eq := b2.eq a2
    subst eq
    have hq := a2.nonneg (sqn0 _)
    have ht := b3.mono a3 (div_mono hq (hE i (by omega)) l)
    have hs := a1.mono b1 (hy (i + 1) (by omega))
    exact a5.mono h.c0 b5 (a4.mono b4 (by grind)) (hE (i + 1) hi)

/-- of positive pivots: what the diagonal is, at least, and what each pivot is, at most -/
theorem Ch.diag (h : Ch c y o E m) (hn : n ≤ m) (hE : ∀ i, i < n → 0 < E i) (i : Nat) (hi : i < n) :
    -TV < y i ∧ TV ≤ E i ∧ ∃ s, RN (y i) s ∧ -TV < s ∧ E i ≤ s + 2 * TV := by
  have T0 := TV_facts.1
  have key : ∀ s r, RN (y i) s → r ≤ s → Clamp c r (E i) → -TV < y i ∧ TV ≤ E i ∧ ∃ s, RN (y i) s ∧ -TV < s ∧ E i ≤ s + 2 * TV := by
    intro s r h1 h2 h3
    obtain ⟨c1, c2, c3⟩ := h3.pos h.c0 (hE i hi)
    refine ⟨?_, c2, s, h1, by grind, by grind⟩
    apply Classical.byContradiction
    intro hc
    have := h1.mono rn_TV.neg (by grind)
    grind
  cases i with
  | zero =>
    obtain ⟨s, r1, c1⟩ := h.zero
    exact key s s r1 Rat.le_refl c1
  | succ i =>
    obtain ⟨s, q, t, r, a1, a2, a3, a4, a5⟩ := h.succ i (by omega)
    have hq := a2.nonneg (sqn0 _)
    have ht := a3.nonneg (div_pos0 hq (hE i (by omega)))
    have rs : RN s s := by
      rcases a1 with ⟨h0, k, hk, rfl⟩ | ⟨h0, k, hk, rfl⟩
      · exact Or.inl ⟨mv_nonneg k, k, isRN_mv k, rfl⟩
      · exact Or.inr ⟨by have := mv_nonneg k; grind, k, by rw [show - -mv k = mv k by grind]; exact isRN_mv k, rfl⟩
    exact key s r a1 (a4.mono rs (by grind)) a5

theorem Ch.small : p2 (-53) * 9007199254740992 = 1 ∧ 0 < p2 (-53) ∧ 0 < p2 (-1075) ∧ p2 (-1075) ≤ p2 (-963) ∧ p2 (-963) ≤ p2 (-200) ∧ p2 (-1075) ≤ p2 (-900) * p2 (-100) ∧ p2 (-900) ≤ p2 (-200) ∧ 0 < p2 (-900) ∧ p2 (-200) * 1000000 ≤ p2 (-53) * p2 (-53) ∧ p2 (-100) ≤ p2 (-53) / 1000 ∧ p2 (-200) * 1000 ≤ p2 (-100) ∧ 0 < p2 (-100) := by
  refine ⟨p2_m53, p2_pos _, p2_pos _, p2_mono (by omega), p2_mono (by omega), ?_, p2_mono (by omega), p2_pos _, ?_, ?_, ?_, p2_pos _⟩
  · rw [← p2_add]; exact p2_mono (by omega)
  · rw [← p2_add]
    have : p2 20 = 1048576 := by rw [show (20 : Int) = ((20 : Nat) : Int) from rfl, p2_nat]; rfl
    have h2 : p2 (-180) = p2 20 * p2 (-200) := by rw [← p2_add]; rfl
    rw [this] at h2
    have h3 : p2 (-180) ≤ p2 (-53 + -53) := p2_mono (by omega)
    have := p2_pos (-200)
    grind
  · have : p2 10 = 1024 := by rw [show (10 : Int) = ((10 : Nat) : Int) from rfl, p2_nat]; rfl
    have h2 : p2 (-90) = p2 10 * p2 (-100) := by rw [← p2_add]; rfl
    rw [this] at h2
    have h3 : p2 (-90) ≤ p2 (-53) := p2_mono (by omega)
    have := p2_pos (-100)
    grind
  · have : p2 10 = 1024 := by rw [show (10 : Int) = ((10 : Nat) : Int) from rfl, p2_nat]; rfl
    have h2 : p2 (-190) = p2 10 * p2 (-200) := by rw [← p2_add]; rfl
    rw [this] at h2
    have h3 : p2 (-190) ≤ p2 (-100) := p2_mono (by omega)
    have := p2_pos (-200)
    grind

theorem amgm {b P Q g w u : Rat} (hP : 0 < P) (hQ : 0 < Q) (hs : P + Q ≤ 2 * (b - g)) (hg : 0 < g) (hgu : 16 * u * b ≤ g) (hw : 4 * w ≤ g * g)
    (h : b * b * ((1 - u) * (1 - u)) ≤ P * Q + w) : False := by
  have h1 : 0 ≤ (P - Q) * (P - Q) := sqn0 _
  have h2 : (P + Q) * (P + Q) ≤ (2 * (b - g)) * (2 * (b - g)) := by
    have a1 := Rat.mul_le_mul_of_nonneg_left hs (show 0 ≤ P + Q by grind)
    have a2 := Rat.mul_le_mul_of_nonneg_right hs (show 0 ≤ 2 * (b - g) by grind)
    grind
  have hb : g < b := by grind
  have h3 : 0 < b * g := Rat.mul_pos (by grind) hg
  have h4 := Rat.mul_le_mul_of_nonneg_right (Rat.le_of_lt hb) (Rat.le_of_lt hg)
  have h5 := Rat.mul_le_mul_of_nonneg_left hgu (show 0 ≤ b by grind)
  have h6 : 0 ≤ b * b * (u * u) := Rat.mul_nonneg (sqn0 b) (sqn0 u)
  have e1 : b * b * ((1 - u) * (1 - u)) = b * b - 2 * (u * (b * b)) + b * b * (u * u) := by grind
  have e2 : (2 * (b - g)) * (2 * (b - g)) = 4 * (b * b) - 8 * (b * g) + 4 * (g * g) := by grind
  have e3 : b * (16 * u * b) = 16 * (u * (b * b)) := by grind
  have e4 : (P - Q) * (P - Q) = (P + Q) * (P + Q) - 4 * (P * Q) := by grind
  grind

/-- of positive pivots: how large an entry beside the diagonal is, at most -/
theorem Ch.off (h : Ch c y o E m) (hn : n ≤ m) (hE : ∀ i, i < n → 0 < E i) (i : Nat) (hi : i + 1 < n) {M b : Rat} (hM : 9 / 10 ≤ M) (y1 : y i ≤ 2 * M) (y2 : y (i + 1) ≤ 2 * M)
    (hbM : b ≤ M) (hb : o i * o i = b * b) : b ≤ (y i + y (i + 1)) / 2 + 64 * (p2 (-53) * M) := by
  obtain ⟨u1, u0, w0, w1, w2, w3, _, _, w4, w5, w6, w7⟩ := Ch.small
  obtain ⟨T0, T1, _⟩ := TV_facts
  obtain ⟨d1, d2, s, d3, d4, d5⟩ := h.diag hn hE i (by omega)
  obtain ⟨e1, e2, s', e3, e4, e5⟩ := h.diag hn hE (i + 1) hi
  obtain ⟨s2, q, t, r, a1, a2, a3, a4, a5⟩ := h.succ i (by omega)
  have es := a1.eq e3
  subst es
  have hEi := hE i (by omega)
  obtain ⟨r1, _⟩ := a5.pos h.c0 (hE (i + 1) hi)
  have ht : t < s2 + TV := by
    apply Classical.byContradiction
    intro hc
    have := a4.mono rn_TV.neg (by grind)
    grind
  have uM := Rat.mul_le_mul_of_nonneg_left hM (Rat.le_of_lt u0)
  have sU := (d3.err (b := 2 * M) y1 (by grind)).1
  have sV := (e3.err (b := 2 * M) y2 (by grind)).1
  have q0 := a2.nonneg (sqn0 _)
  have qe := (a2.err (b := b * b) (by grind) (by have := sqn0 b; grind)).2
  rw [hb] at qe
  have t0 := div_pos0 q0 hEi
  have te := (a3.err (b := q / E i) Rat.le_refl (by grind)).2
  have hq : q / E i * E i = q := Rat.div_mul_cancel (by grind)
  generalize q / E i = z at *
  apply Classical.byContradiction
  intro hc
  -- P and Q
  have f1 : z * (1 - p2 (-53)) ≤ s2 + TV + p2 (-1075) := by grind
  have f2 := Rat.mul_le_mul_of_nonneg_right f1 (Rat.le_of_lt hEi)
  have f3 := Rat.mul_le_mul_of_nonneg_left d5 (show 0 ≤ s2 + TV + p2 (-1075) by
    have := Rat.mul_nonneg t0 (show 0 ≤ 1 - p2 (-53) by grind); grind)
  have f4 := Rat.mul_le_mul_of_nonneg_left (show b * b * (1 - p2 (-53)) ≤ q + p2 (-1075) by grind) (show 0 ≤ 1 - p2 (-53) by grind)
  have g0 : 0 < 32 * (p2 (-53) * M) := by grind
  have gg := Rat.mul_le_mul_of_nonneg_left (show 16 * p2 (-53) ≤ 32 * (p2 (-53) * M) by grind) (show 0 ≤ 16 * p2 (-53) by grind)
  have gg2 := Rat.mul_le_mul_of_nonneg_right (show 16 * p2 (-53) ≤ 32 * (p2 (-53) * M) by grind) (Rat.le_of_lt g0)
  have ub := Rat.mul_le_mul_of_nonneg_left hbM (Rat.le_of_lt u0)
  have uw := Rat.mul_nonneg (Rat.le_of_lt u0) (Rat.le_of_lt w0)
  have hz : z * (1 - p2 (-53)) * E i = (1 - p2 (-53)) * q := by rw [← hq]; grind
  rw [hz] at f2
  have hw : 4 * p2 (-1075) ≤ 32 * (p2 (-53) * M) * (32 * (p2 (-53) * M)) := by grind
  have hsum : s + 2 * TV + (s2 + TV + p2 (-1075)) ≤ 2 * (b - 32 * (p2 (-53) * M)) := by grind
  have hgu : 16 * p2 (-53) * b ≤ 32 * (p2 (-53) * M) := by grind
  have hmain : b * b * ((1 - p2 (-53)) * (1 - p2 (-53))) ≤ (s + 2 * TV) * (s2 + TV + p2 (-1075)) + p2 (-1075) := by grind
  exact amgm (by grind) (by grind) hsum g0 hgu hw hmain

/-- a dominant diagonal: every pivot is positive -/
theorem Ch.dom (h : Ch c y o E m) {M : Rat} {b : Nat → Rat} (hM : 9 / 10 ≤ M) (hy : ∀ i, i < m → y i ≤ 2 * M) (hb : ∀ i, i + 1 < m → 0 ≤ b i ∧ b i ≤ M ∧ o i * o i = b i * b i)
    (h0 : (if 1 < m then b 0 else 0) + 128 * (p2 (-53) * M) ≤ y 0) (hs : ∀ i, i + 1 < m → b i + (if i + 2 < m then b (i + 1) else 0) + 128 * (p2 (-53) * M) ≤ y (i + 1)) (i : Nat) (hi : i < m) :
    (if i + 1 < m then b i else 0) + 64 * (p2 (-53) * M) ≤ E i := by
  obtain ⟨u1, u0, w0, w1, w2, w3, w8, w9, w4, w5, w6, w7⟩ := Ch.small
  obtain ⟨T0, T1, _⟩ := TV_facts
  have uM := Rat.mul_le_mul_of_nonneg_left hM (Rat.le_of_lt u0)
  have uN := Rat.mul_le_mul_of_nonneg_right (show p2 (-53) ≤ 1 / 1000000 by grind) (show 0 ≤ M by grind)
  have fin : ∀ r x, 0 ≤ x → Clamp c r (E i) → x + 64 * (p2 (-53) * M) ≤ r → x + 64 * (p2 (-53) * M) ≤ E i := by
    intro r x hx h1 h2
    unfold Clamp at h1
    grind
  induction i with
  | zero =>
    obtain ⟨s, r1, c1⟩ := h.zero
    refine fin s _ ?_ c1 ?_
    · split
      · exact (hb 0 (by omega)).1
      · exact Rat.le_refl
    · have := (r1.err (b := 2 * M) (hy 0 hi) (by
        have : 0 ≤ (if 1 < m then b 0 else 0) := by
          split
          · exact (hb 0 (by omega)).1
          · exact Rat.le_refl
        grind)).2
      show (if 1 < m then b 0 else 0) + _ ≤ s
      grind
  | succ i ih =>
    obtain ⟨s, q, t, r, a1, a2, a3, a4, a5⟩ := h.succ i hi
    have B := hb i hi
    obtain ⟨b0, b1, b2⟩ := B
    have ihi := ih (by omega) (fun r x hx h1 h2 => by unfold Clamp at h1; grind)
    rw [if_pos hi] at ihi
    have D := hs i hi
    have ρ0 : 0 ≤ (if i + 1 + 1 < m then b (i + 1) else 0) := by
      split
      · exact (hb (i + 1) (by omega)).1
      · exact Rat.le_refl
    rw [show (if i + 2 < m then b (i + 1) else 0) = (if i + 1 + 1 < m then b (i + 1) else 0) from rfl] at D
    generalize (if i + 1 + 1 < m then b (i + 1) else 0) = ρ at *
    refine fin r ρ ρ0 a5 ?_
    have hEi : 0 < E i := by grind
    have q0 := a2.nonneg (sqn0 _)
    have qe := (a2.err (b := b i * b i) (by grind) (by have := sqn0 (b i); grind)).1
    rw [b2] at qe
    have t0 := div_pos0 q0 hEi
    have hq : q / E i * E i = q := Rat.div_mul_cancel (by grind)
    have bb := Rat.mul_le_mul_of_nonneg_left (Rat.mul_le_mul_of_nonneg_left b1 b0) (Rat.le_of_lt u0)
    have zq : q / E i ≤ b i + p2 (-53) * M + p2 (-900) := by
      generalize q / E i = z at *
      apply Classical.byContradiction
      intro hc
      have k1 := Rat.mul_lt_mul_of_pos_right (show b i + p2 (-53) * M + p2 (-900) < z by grind) hEi
      have k2 := Rat.mul_le_mul_of_nonneg_left ihi (show 0 ≤ b i + p2 (-53) * M + p2 (-900) by grind)
      have k3 := Rat.mul_le_mul_of_nonneg_left (show p2 (-100) ≤ 64 * (p2 (-53) * M) by grind) (Rat.le_of_lt w9)
      have k4 := Rat.mul_nonneg (Rat.le_of_lt w9) b0
      have k5 := Rat.mul_nonneg (show 0 ≤ b i + p2 (-53) * M by grind) (show 0 ≤ 64 * (p2 (-53) * M) by grind)
      grind
    have te := (a3.err (b := 2 * M) (by grind) (by grind)).1
    have tn := a3.nonneg t0
    have yi := hy (i + 1) hi
    have se := a1.err (b := 2 * M) yi (by grind)
    have re := (a4.err (b := 4 * M) (by grind) (by grind)).2
    grind
end Go.Proofs.Qxb6605993a
