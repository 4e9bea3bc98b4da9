/- The plain law of 'variables': a map filled, in whatever order, with those entries of another whose element is not the empty string. No Go text in sight. -/
import Derived.Maps.Ext
import Derived.Maps.StringElems
import Derived.Maps.OwnSet
namespace Go.Proofs.Qxb6605996a
open Go.Maps

def nonEmp {H : Type} : DataW H → Bool
  | .lit (.string []) => false
  | _ => true

def str {H : Type} (l : List UInt8) : DataW H := .lit (.string l)

theorem nonEmp_str {H : Type} (l : List UInt8) : nonEmp (str (H := H) l) = !l.isEmpty := by cases l <;> rfl

def keep {H : Type} (D0 : DataW H) (k : Lit) : Bool := nonEmp (D0.atKey k (str []))

/-- Dout holds just those entries of D0 that are no longer to come and are not empty. -/
def Filt {H : Type} (Dout D0 : DataW H) (left : Lit → Bool) : Prop :=
  (∀ k, has Dout k = (has D0 k && !left k && keep D0 k)) ∧ ∀ k z, has Dout k = true → Dout.atKey k z = D0.atKey k z

section
variable {H : Type} {Dout D0 : DataW H} {left : Lit → Bool} {kl : Lit} {d : DataW H}

theorem filt_start (D0 : DataW H) : Filt (.map []) D0 (has D0) :=
  ⟨fun k => by cases has D0 k <;> rfl, fun k z h => by cases h⟩

theorem filt_put (hA : Filt Dout D0 left) (hm : IsMap Dout) (hk : WideAt.IsKeyLit kl) (hat : ∀ zd, D0.atKey kl zd = d) (hd : nonEmp d = true) :
    Filt (Dout.put kl d) D0 (fun z => left z && !z.sameKey kl) := by
  refine ⟨fun k => ?_, fun k z h => ?_⟩
  · by_cases e : k = kl
    · subst e
      show has (Dout.put k d) k = (has D0 k && !(left k && !k.sameKey k) && keep D0 k)
      rw [has_put_same hm hk, has_true_of_atKey hat, WideAt.sameKey_self hk]
      simp [keep, hat, hd]
    · show has (Dout.put kl d) k = (has D0 k && !(left k && !k.sameKey kl) && keep D0 k)
      rw [has_put_other e, hA.1 k, sameKey_ne e]
      simp
  · by_cases e : k = kl
    · subst e
      rw [atKey_put_same hm hk, hat]
    · rw [has_put_other e] at h
      rw [atKey_put_other e, hA.2 k z h]

theorem filt_skip (hA : Filt Dout D0 left) (hat : ∀ zd, D0.atKey kl zd = d) (hd : nonEmp d = false) :
    Filt Dout D0 (fun z => left z && !z.sameKey kl) := by
  refine ⟨fun k => ?_, hA.2⟩
  by_cases e : k = kl
  · subst e
    show has Dout k = (has D0 k && !(left k && !k.sameKey k) && keep D0 k)
    rw [hA.1 k]
    simp [keep, hat, hd]
  · show has Dout k = (has D0 k && !(left k && !k.sameKey kl) && keep D0 k)
    rw [hA.1 k, sameKey_ne e]
    simp

theorem filt_end {D1 : DataW H} (hA : Filt Dout D0 left) (hl : ∀ k, left k = false) (c : Canon Dout) (hB : Filt D1 D0 (fun _ => false)) (c1 : Canon D1) : Dout = D1 :=
  ext c c1 (fun k => by rw [hA.1, hB.1, hl]) (fun k z h => by
    have h1 : has D1 k = true := by rw [hB.1]; rw [hA.1, hl] at h; exact h
    rw [hA.2 k z h, hB.2 k z h1])
end

/-- what a put does to a filter that is whole: the reference map grows with its source -/
theorem filt_grow_put {H : Type} {D1 D0 : DataW H} {kl : Lit} {d : DataW H} (hB : Filt D1 D0 (fun _ => false)) (m1 : IsMap D1) (m0 : IsMap D0) (hk : WideAt.IsKeyLit kl) (hd : nonEmp d = true) :
    Filt (D1.put kl d) (D0.put kl d) (fun _ => false) := by
  refine ⟨fun k => ?_, fun k z h => ?_⟩
  · by_cases e : k = kl
    · subst e
      rw [has_put_same m1 hk, has_put_same m0 hk]
      simp [keep, atKey_put_same m0 hk, hd]
    · rw [has_put_other e, has_put_other e, hB.1 k]
      simp only [keep, atKey_put_other e]
  · by_cases e : k = kl
    · subst e
      rw [atKey_put_same m1 hk, atKey_put_same m0 hk]
    · rw [has_put_other e] at h
      rw [atKey_put_other e, atKey_put_other e, hB.2 k z h]

theorem filt_grow_skip {H : Type} {D1 D0 : DataW H} {kl : Lit} {d : DataW H} (hB : Filt D1 D0 (fun _ => false)) (m0 : IsMap D0) (hk : WideAt.IsKeyLit kl) (hd : nonEmp d = false) (hn : has D1 kl = false) :
    Filt D1 (D0.put kl d) (fun _ => false) := by
  refine ⟨fun k => ?_, fun k z h => ?_⟩
  · by_cases e : k = kl
    · subst e
      rw [hn, has_put_same m0 hk]
      simp [keep, atKey_put_same m0 hk, hd]
    · rw [has_put_other e, hB.1 k]
      simp only [keep, atKey_put_other e]
  · by_cases e : k = kl
    · subst e
      rw [hn] at h; cases h
    · rw [atKey_put_other e, hB.2 k z h]

/-! ### the three keys -/
def kN : List UInt8 := [99, 114, 101, 100, 101, 110, 116, 105, 97, 108, 115, 45, 105, 111, 116, 58, 84, 104, 105, 110, 103, 78, 97, 109, 101]
def kT : List UInt8 := [99, 114, 101, 100, 101, 110, 116, 105, 97, 108, 115, 45, 105, 111, 116, 58, 84, 104, 105, 110, 103, 84, 121, 112, 101, 78, 97, 109, 101]
def kC : List UInt8 := [99, 114, 101, 100, 101, 110, 116, 105, 97, 108, 115, 45, 105, 111, 116, 58, 65, 119, 115, 67, 101, 114, 116, 105, 102, 105, 99, 97, 116, 101, 73, 100]

theorem sk (l : List UInt8) : WideAt.IsKeyLit (.string l) := trivial
theorem nt : Lit.string kN ≠ Lit.string kT := by intro h; injection h with h; revert h; decide
theorem nc : Lit.string kN ≠ Lit.string kC := by intro h; injection h with h; revert h; decide
theorem tc : Lit.string kT ≠ Lit.string kC := by intro h; injection h with h; revert h; decide

/-- the map literal -/
def src {H : Type} (n t c : List UInt8) : DataW H := (((DataW.map []).put (.string kN) (str n)).put (.string kT) (str t)).put (.string kC) (str c)
def one {H : Type} (D : DataW H) (k v : List UInt8) : DataW H := if v.isEmpty then D else D.put (.string k) (str v)
/-- the answer -/
def ans {H : Type} (n t c : List UInt8) : DataW H := one (one (one (.map []) kN n) kT t) kC c

theorem one_isMap {H : Type} {D : DataW H} (h : IsMap D) (k v : List UInt8) : IsMap (one D k v) := by
  unfold one; split
  · exact h
  · exact h.put _ _
theorem one_tidy {H : Type} {D : DataW H} (h : Tidy D) (k v : List UInt8) : Tidy (one D k v) := by
  unfold one; split
  · exact h
  · exact h.put (sk _) _
theorem one_has_other {H : Type} {D : DataW H} {k v : List UInt8} {j : Lit} (h : j ≠ .string k) : has (one D k v) j = has D j := by
  unfold one; split
  · rfl
  · exact has_put_other h _
theorem one_has_same {H : Type} {D : DataW H} (m : IsMap D) {k v : List UInt8} (h : has D (.string k) = false) : has (one D k v) (.string k) = !v.isEmpty := by
  unfold one; split
  · rename_i e; rw [h, e]; rfl
  · rename_i e; rw [has_put_same m (sk _)]; simp [e]
theorem one_at_other {H : Type} {D : DataW H} {k v : List UInt8} {j : Lit} (h : j ≠ .string k) (z : DataW H) : (one D k v).atKey j z = D.atKey j z := by
  unfold one; split
  · rfl
  · exact atKey_put_other h _ _
theorem one_at_same {H : Type} {D : DataW H} (m : IsMap D) {k v : List UInt8} (h : has D (.string k) = false) : (one D k v).atKey (.string k) (str []) = str v := by
  unfold one; split
  · rename_i e; rw [atKey_of_not_has h]; simp at e; rw [e]
  · exact atKey_put_same m (sk _) _ _
theorem one_size {H : Type} {D : DataW H} (t : Tidy D) {k v : List UInt8} (h : has D (.string k) = false) : size (one D k v) = size D + (if v.isEmpty then 0 else 1) := by
  unfold one; split
  · rfl
  · rw [size_put t, h]; rfl

theorem has_empty {H : Type} (k : Lit) : has (.map [] : DataW H) k = false := rfl

section
variable {H : Type} (n t c : List UInt8)
theorem ans_isMap : IsMap (ans (H := H) n t c) := one_isMap (one_isMap (one_isMap isMap_empty _ _) _ _) _ _
theorem ans_tidy : Tidy (ans (H := H) n t c) := one_tidy (one_tidy (one_tidy tidy_empty _ _) _ _) _ _
theorem h1T : has (one (.map [] : DataW H) kN n) (.string kT) = false := by rw [one_has_other nt.symm]; rfl
theorem h2C : has (one (one (.map [] : DataW H) kN n) kT t) (.string kC) = false := by rw [one_has_other tc.symm, one_has_other nc.symm]; rfl
theorem ans_has_N : has (ans (H := H) n t c) (.string kN) = !n.isEmpty := by
  unfold ans
  rw [one_has_other nc, one_has_other nt, one_has_same isMap_empty rfl]
theorem ans_has_T : has (ans (H := H) n t c) (.string kT) = !t.isEmpty := by
  unfold ans
  rw [one_has_other tc, one_has_same (one_isMap isMap_empty _ _) (h1T n)]
theorem ans_has_C : has (ans (H := H) n t c) (.string kC) = !c.isEmpty := by
  unfold ans
  rw [one_has_same (one_isMap (one_isMap isMap_empty _ _) _ _) (h2C n t)]
theorem ans_at_N : (ans (H := H) n t c).atKey (.string kN) (str []) = str n := by
  unfold ans
  rw [one_at_other nc, one_at_other nt, one_at_same isMap_empty rfl]
theorem ans_at_T : (ans (H := H) n t c).atKey (.string kT) (str []) = str t := by
  unfold ans
  rw [one_at_other tc, one_at_same (one_isMap isMap_empty _ _) (h1T n)]
theorem ans_at_C : (ans (H := H) n t c).atKey (.string kC) (str []) = str c := by
  unfold ans
  rw [one_at_same (one_isMap (one_isMap isMap_empty _ _) _ _) (h2C n t)]
theorem ans_size : size (ans (H := H) n t c) = (if n.isEmpty then 0 else 1) + (if t.isEmpty then 0 else 1) + (if c.isEmpty then 0 else 1) := by
  unfold ans
  rw [one_size (one_tidy (one_tidy tidy_empty _ _) _ _) (h2C n t), one_size (one_tidy tidy_empty _ _) (h1T n), one_size tidy_empty rfl]
  simp [size]

theorem filt_one {D1 D0 : DataW H} {k v : List UInt8} (hB : Filt D1 D0 (fun _ => false)) (m1 : IsMap D1) (m0 : IsMap D0) (hn : has D1 (.string k) = false) :
    Filt (one D1 k v) (D0.put (.string k) (str v)) (fun _ => false) := by
  unfold one; split
  · rename_i e
    exact filt_grow_skip hB m0 (sk _) (by rw [nonEmp_str, e]; rfl) hn
  · rename_i e
    exact filt_grow_put hB m1 m0 (sk _) (by rw [nonEmp_str]; simpa using e)

theorem filt_ans : Filt (ans (H := H) n t c) (src n t c) (fun _ => false) := by
  unfold ans src
  have f0 : Filt (.map [] : DataW H) (.map []) (fun _ => false) := ⟨fun k => rfl, fun k z h => by cases h⟩
  have f1 := filt_one (v := n) f0 isMap_empty isMap_empty (k := kN) rfl
  have f2 := filt_one (v := t) f1 (one_isMap isMap_empty _ _) (isMap_empty.put _ _) (k := kT) (h1T n)
  exact filt_one (v := c) f2 (one_isMap (one_isMap isMap_empty _ _) _ _) ((isMap_empty.put _ _).put _ _) (k := kC) (h2C n t)

/-- a tidy map of puts is in canonical form: needed at the end -/
theorem src_size : size (src (H := H) n t c) = 3 := by
  unfold src
  have a1 : has ((DataW.map [] : DataW H).put (.string kN) (str n)) (.string kT) = false := by rw [has_put_other nt.symm]; rfl
  have a2 : has (((DataW.map [] : DataW H).put (.string kN) (str n)).put (.string kT) (str t)) (.string kC) = false := by rw [has_put_other tc.symm, has_put_other nc.symm]; rfl
  rw [size_put ((tidy_empty.put (sk _) _).put (sk _) _), a2, size_put (tidy_empty.put (sk _) _), a1, size_put tidy_empty]
  rfl
end

end Go.Proofs.Qxb6605996a
