/- Soundness of the computation about the draws. Plain: no Go text. -/
import Derived.Test.Qxb6605993aDraws
namespace Go.Proofs.Qxb6605993a.Draws

theorem part_sound (b : Nat) (k : List Nat → List Nat → Bool) : ∀ (l z o : List Nat), part b l z o k = true →
    ∃ z' o', k z' o' = true ∧ (∀ a, a ∈ l → (a / b % 2 = 0 → a ∈ z') ∧ (a / b % 2 ≠ 0 → a ∈ o')) ∧ (∀ a, a ∈ z → a ∈ z') ∧ (∀ a, a ∈ o → a ∈ o') := by
  intro l
  induction l with
  | nil => intro z o h; exact ⟨z, o, h, fun a ha => (by cases ha), fun a ha => ha, fun a ha => ha⟩
  | cons x l ih =>
    intro z o h
    unfold part at h
    split at h
    · rename_i hx
      obtain ⟨z', o', hk, hl, hz, ho⟩ := ih _ _ h
      refine ⟨z', o', hk, ?_, fun a ha => hz a (List.mem_cons_of_mem _ ha), ho⟩
      intro a ha
      rcases List.mem_cons.1 ha with rfl | ha
      · exact ⟨fun _ => hz _ (List.mem_cons_self ..), fun h => absurd hx h⟩
      · exact hl a ha
    · rename_i n hx
      obtain ⟨z', o', hk, hl, hz, ho⟩ := ih _ _ h
      refine ⟨z', o', hk, ?_, hz, fun a ha => ho a (List.mem_cons_of_mem _ ha)⟩
      intro a ha
      rcases List.mem_cons.1 ha with rfl | ha
      · exact ⟨fun h => by omega, fun _ => ho _ (List.mem_cons_self ..)⟩
      · exact hl a ha

theorem disj_sound : ∀ (n b : Nat) (A B : List Nat), disj n b A B = true → ∀ a, a ∈ A → a ∈ B → False := by
  intro n
  induction n with
  | zero =>
    intro b A B h a ha hb
    unfold disj at h
    rw [Bool.or_eq_true, List.isEmpty_iff, List.isEmpty_iff] at h
    rcases h with h | h
    · rw [h] at ha; cases ha
    · rw [h] at hb; cases hb
  | succ n ih =>
    intro b A B h a ha hb
    unfold disj at h
    split at h
    · cases ha
    · split at h
      · cases hb
      · obtain ⟨A0, A1, hk, hA, _, _⟩ := part_sound _ _ _ _ _ h
        obtain ⟨B0, B1, hk2, hB, _, _⟩ := part_sound _ _ _ _ _ hk
        rw [frc_eq, Bool.and_eq_true] at hk2
        by_cases h0 : a / b % 2 = 0
        · exact ih _ _ _ hk2.1 a ((hA a ha).1 h0) ((hB a hb).1 h0)
        · exact ih _ _ _ hk2.2 a ((hA a ha).2 h0) ((hB a hb).2 h0)

theorem genT_mem (s n : Nat) : ∀ acc, (∀ i, i < n → cellT (s + i) ∈ genT s n acc) ∧ (∀ a, a ∈ acc → a ∈ genT s n acc) := by
  induction n with
  | zero => intro acc; exact ⟨fun i hi => by omega, fun a ha => ha⟩
  | succ n ih =>
    intro acc
    unfold genT
    rw [frc_eq]
    obtain ⟨h1, h2⟩ := ih (cellT (s + n) :: acc)
    refine ⟨fun i hi => ?_, fun a ha => h2 a (List.mem_cons_of_mem _ ha)⟩
    by_cases e : i = n
    · subst e; exact h2 _ (List.mem_cons_self ..)
    · exact h1 i (by omega)

theorem genS_mem (n : Nat) : ∀ acc, (∀ m, 1 ≤ m → m ≤ n → cellS m ∈ genS n acc ∧ (cellS m + 1) % 4503599627370496 ∈ genS n acc) ∧ (∀ a, a ∈ acc → a ∈ genS n acc) := by
  induction n with
  | zero => intro acc; exact ⟨fun i h1 h2 => by omega, fun a ha => ha⟩
  | succ n ih =>
    intro acc
    unfold genS
    rw [frc_eq, frc_eq]
    obtain ⟨h1, h2⟩ := ih (cellS (n + 1) :: (cellS (n + 1) + 1) % 4503599627370496 :: acc)
    refine ⟨fun m hm hn => ?_, fun a ha => h2 a (List.mem_cons_of_mem _ (List.mem_cons_of_mem _ ha))⟩
    by_cases e : m = n + 1
    · subst e; exact ⟨h2 _ (List.mem_cons_self ..), h2 _ (List.mem_cons_of_mem _ (List.mem_cons_self ..))⟩
    · exact h1 m hm (by omega)

/-! ### the mixer undone -/
theorem unshift {x s : Nat} (hx : x < 2 ^ 64) (hs : 64 ≤ 3 * s) :
    (x ^^^ (x / 2 ^ s)) ^^^ ((x ^^^ (x / 2 ^ s)) / 2 ^ s) ^^^ ((x ^^^ (x / 2 ^ s)) / 2 ^ (2 * s)) = x := by
  apply Nat.eq_of_testBit_eq
  intro i
  simp only [Nat.testBit_xor, Nat.testBit_div_two_pow]
  have h3 : x.testBit (2 * s + i + s) = false := Nat.testBit_lt_two_pow (Nat.lt_of_lt_of_le hx (Nat.pow_le_pow_right (by omega) (by omega)))
  have e1 : s + i + s = 2 * s + i := by omega
  have e0 : i + s = s + i := by omega
  have e2 : i + 2 * s = 2 * s + i := by omega
  simp only [e0, e1, e2, h3]
  cases x.testBit i <;> cases x.testBit (s + i) <;> cases x.testBit (2 * s + i) <;> rfl

theorem unmul {x c d : Nat} (hx : x < 18446744073709551616) (h : c * d % 18446744073709551616 = 1) : x * c % 18446744073709551616 * d % 18446744073709551616 = x := by
  rw [Nat.mod_mul_mod, Nat.mul_assoc, Nat.mul_mod, h, Nat.mul_one, Nat.mod_mod]
  exact Nat.mod_eq_of_lt hx

theorem cellT_mix {z : Nat} (hz : z < 18446744073709551616) : cellT (mixN z) = z * 17428512612931826493 % 18446744073709551616 / 4096 := by
  unfold cellT
  simp only [frc_eq]
  unfold mixN
  have l1 := mix1_lt z
  have l2 := mix2_lt (mix1 z)
  have u3 : mix3 (mix2 (mix1 z)) ^^^ mix3 (mix2 (mix1 z)) / 2147483648 ^^^ mix3 (mix2 (mix1 z)) / 4611686018427387904 = mix2 (mix1 z) := by
    unfold mix3
    exact unshift (s := 31) l2 (by omega)
  rw [u3]
  have lx2 : mix1 z ^^^ (mix1 z / 134217728) < 18446744073709551616 := xor_lt l1 (by omega)
  have m2 : mix2 (mix1 z) * 3573116690164977347 % 18446744073709551616 = mix1 z ^^^ (mix1 z / 134217728) := by
    unfold mix2
    exact unmul lx2 (by decide +kernel)
  rw [m2]
  have u2 : (mix1 z ^^^ (mix1 z / 134217728)) ^^^ ((mix1 z ^^^ (mix1 z / 134217728)) / 134217728) ^^^ ((mix1 z ^^^ (mix1 z / 134217728)) / 18014398509481984) = mix1 z := unshift (s := 27) l1 (by omega)
  rw [u2]
  have lx1 : z ^^^ (z / 1073741824) < 18446744073709551616 := xor_lt hz (by omega)
  have m1 : mix1 z * 10871156337175269513 % 18446744073709551616 = z ^^^ (z / 1073741824) := by
    unfold mix1
    exact unmul lx1 (by decide +kernel)
  rw [m1]
  have u1 : (z ^^^ (z / 1073741824)) ^^^ ((z ^^^ (z / 1073741824)) / 1073741824) ^^^ ((z ^^^ (z / 1073741824)) / 1152921504606846976) = z := unshift (s := 30) hz (by omega)
  rw [u1]

theorem fnv_seed : fnvTo seedBytes 14695981039346656037 = 6980902192717205947 := by kernel_rfl

theorem cellS_seed (m : Nat) : cellS m = seedS m * 17428512612931826493 % 18446744073709551616 / 4096 := by
  unfold cellS seedS
  rw [fnv_seed]
  simp only [frc_eq]
  rfl

theorem state_eq (m k : Nat) : stateS m k % 18446744073709551616 = (seedS m + k * 11400714819323198485) % 18446744073709551616 := by
  induction k with
  | zero => rw [Nat.zero_mul, Nat.add_zero]; rfl
  | succ k ih =>
    show nextS (stateS m k) % _ = _
    unfold nextS
    rw [Nat.mod_mod, Nat.add_mod, ih, ← Nat.add_mod, Nat.add_mul, Nat.one_mul, ← Nat.add_assoc]

theorem two_cells {S k T : Nat} (hS : S < 18446744073709551616) (hk : k < 4096) (hT : T = (S + (k + 1)) % 18446744073709551616) : T / 4096 = S / 4096 ∨ T / 4096 = (S / 4096 + 1) % 4503599627370496 := by
  by_cases h : S + (k + 1) < 18446744073709551616
  · rw [Nat.mod_eq_of_lt h] at hT
    by_cases e : T / 4096 = S / 4096
    · exact Or.inl e
    · right
      have : T / 4096 = S / 4096 + 1 := by omega
      rw [this, Nat.mod_eq_of_lt (by omega)]
  · right
    have e1 : T = S + (k + 1) - 18446744073709551616 := by omega
    have e2 : T / 4096 = 0 := by omega
    have e3 : S / 4096 + 1 = 4503599627370496 := by omega
    rw [e2, e3]

/-- no draw is nearly a half -/
theorem far (m k : Nat) (hm : m ≤ 4096) (hk : k < m) : mixN (stateS m (k + 1)) / 2048 + 3 ≤ 4503599627370496 ∨ 4503599627370496 + 3 ≤ mixN (stateS m (k + 1)) / 2048 := by
  apply Classical.byContradiction
  intro hc
  have hz : stateS m (k + 1) < 18446744073709551616 := nextS_lt _
  have hst := state_eq m (k + 1)
  rw [Nat.mod_eq_of_lt hz] at hst
  have hT := cellT_mix hz
  generalize hu : mixN (stateS m (k + 1)) = u at hc hT
  have hi : ∃ s i, i < 2048 ∧ u = s + i ∧ disj 52 2251799813685248 (genT s 2048 []) (genS 4096 []) = true := by
    rcases (by omega : (9223372036854771712 ≤ u ∧ u < 9223372036854771712 + 2048) ∨ (9223372036854773760 ≤ u ∧ u < 9223372036854773760 + 2048) ∨ (9223372036854775808 ≤ u ∧ u < 9223372036854775808 + 2048) ∨ (9223372036854777856 ≤ u ∧ u < 9223372036854777856 + 2048) ∨ (9223372036854779904 ≤ u ∧ u < 9223372036854779904 + 2048)) with h | h | h | h | h
    · exact ⟨9223372036854771712, u - 9223372036854771712, by omega, by omega, tested0⟩
    · exact ⟨9223372036854773760, u - 9223372036854773760, by omega, by omega, tested1⟩
    · exact ⟨9223372036854775808, u - 9223372036854775808, by omega, by omega, tested2⟩
    · exact ⟨9223372036854777856, u - 9223372036854777856, by omega, by omega, tested3⟩
    · exact ⟨9223372036854779904, u - 9223372036854779904, by omega, by omega, tested4⟩
  obtain ⟨s, i, hi, he, tested⟩ := hi
  rw [he] at hT
  have mT := (genT_mem s 2048 []).1 i hi
  obtain ⟨mS, mS'⟩ := (genS_mem 4096 []).1 m (by omega) hm
  have hS := cellS_seed m
  have key : stateS m (k + 1) * 17428512612931826493 % 18446744073709551616 = (seedS m * 17428512612931826493 % 18446744073709551616 + (k + 1)) % 18446744073709551616 := by
    rw [hst, Nat.mod_mul_mod, Nat.add_mul, Nat.mul_assoc (k + 1), Nat.add_mod, Nat.mul_mod (k + 1) (11400714819323198485 * 17428512612931826493), show 11400714819323198485 * 17428512612931826493 % 18446744073709551616 = 1 by decide +kernel, Nat.mul_one, Nat.mod_mod, ← Nat.add_mod, Nat.mod_add_mod]
  have hlt : seedS m * 17428512612931826493 % 18446744073709551616 < 18446744073709551616 := Nat.mod_lt _ (by omega)
  rw [key] at hT
  have two : cellT (s + i) = cellS m ∨ cellT (s + i) = (cellS m + 1) % 4503599627370496 := by
    rw [hT, hS]
    exact two_cells hlt (by omega) rfl
  rcases two with h | h
  · rw [h] at mT; exact disj_sound _ _ _ _ tested _ mT mS
  · rw [h] at mT; exact disj_sound _ _ _ _ tested _ mT mS'
end Go.Proofs.Qxb6605993a.Draws
