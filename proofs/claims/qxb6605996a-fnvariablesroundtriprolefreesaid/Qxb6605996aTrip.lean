/- The walk of the law FnVariablesRoundTripRoleFree. -/
import Derived.Test.Qxb6605996aLooks
namespace Go.Proofs.Qxb6605996a
open Go.ChangeShapes Go.WideShapes Go.ChangeAt Go.RowKit Go.Maps
open Go.WideMaps Go.WideElems

theorem trip_far (a0 a1 a2 a3 a4 : ByteArray) (w0 : a0.size ≤ maxLen) (w1 : a1.size ≤ maxLen) (w2 : a2.size ≤ maxLen) (w3 : a3.size ≤ maxLen) (w4 : a4.size ≤ maxLen) (w : World) (h : 1048576 < a0.size + a1.size + a2.size + a3.size + a4.size) :
    Calls Try.prog 4 #[.string a0, .string a1, .string a2, .string a3, .string a4] w fun e w' => e = .returned (.bool true) ∧ Below w.heap.size w w' := by
  go_enter Try.func4, Try.ntmps4
  go_wp2_with (go_at_call 10; refine (bytes10no _ _ _ _ _ _ w0 w1 w2 w3 w4 h).mono ?_; rintro e w' ⟨rfl, rfl⟩)
  go_ret
  exact ⟨rfl, Below.refl _ _⟩

theorem owns_below {W W2 : World} {b n : Nat} {D : DataW Unit} (hb : Below W.heap.size W W2) (h : W.ownsMap Try.prog 9 (plainElem Try.prog 9) b n D) : W2.ownsMap Try.prog 9 (plainElem Try.prog 9) b n D := by
  have hlt := h.lt
  obtain ⟨es, clock, he, r⟩ := h
  exact ⟨es, clock, (hb.block b hlt).trans he, r⟩

/-- a look-up without 'ok' -/
theorem look_at {w : World} {b n : Nat} {D : DataW Unit} (h : w.ownsMap Try.prog 9 (plainElem Try.prog 9) b n D) {key : Value} {k : List UInt8} {v : ByteArray} (hkey : keyOf Try.prog 9 key = some (.string k)) (hat : D.atKey (.string k) (str []) = str v.data.toList) :
    (Instr.lookup 23 (.map (some b)) key false).run Try.prog w = .ok (.string v) w := by
  obtain ⟨u, ps, hrun, hv⟩ := h.lookup law9 Try.underlying23 (zero9 w) (plainElem_string Try.underlying9 (by decide)) hkey
  obtain ⟨s, rfl, hs, _⟩ := plainElem_string_inv Try.underlying9 hv
  have e := congrArg Prod.fst hs
  simp only at e
  change D.atKey (.string k) (str []) = str s.data.toList at e
  rw [hat] at e
  unfold str at e
  injection e with e
  injection e with e
  rw [bytes_inj e]
  exact hrun

set_option maxHeartbeats 4000000 in
theorem trip_near (a0 a1 a2 a3 a4 : ByteArray) (w2 : a2.size ≤ maxLen) (w3 : a3.size ≤ maxLen) (w4 : a4.size ≤ maxLen) (w : World) (h : a0.size + a1.size + a2.size + a3.size + a4.size ≤ 1048576)
    (n t c : Bool) (hn : a3.data.toList.isEmpty = n) (ht : a4.data.toList.isEmpty = t) (hc : a2.data.toList.isEmpty = c) :
    Calls Try.prog 4 #[.string a0, .string a1, .string a2, .string a3, .string a4] w fun e w' => e = .returned (.bool true) ∧ Below w.heap.size w w' := by
  cases n <;> cases t <;> cases c
  all_goals
    go_enter Try.func4, Try.ntmps4
    go_wp2_with fail
    refine (bytes10 _ _ _ _ _ _ h).mono ?_
    rintro e w' ⟨rfl, rfl⟩
    go_wp2_with fail
    refine (zzvars8 _ _ _ _ w2 w3 w4 _).mono ?_
    rintro e W ⟨rfl, hown1, hbel⟩
    go_wp2_with fail
    refine (zzvars8 _ _ _ _ w2 w3 w4 _).mono ?_
    rintro e W2 ⟨rfl, hown2, hbel2⟩
    have hown1' : W2.ownsMap (H := Unit) Try.prog 9 (plainElem Try.prog 9) (w'.heap.size + 1) 3 (ans a3.data.toList a4.data.toList a2.data.toList) := owns_below hbel2 hown1
    have hbw : Below w'.heap.size w' W2 := hbel.trans (hbel2.mono hbel.size)
    have hlen1 := fun ty => hown1'.len Try.underlying23 ty
    have hlen2 := fun ty => hown2.len Try.underlying23 ty
    rw [ans_size] at hlen1 hlen2
    simp [hn, ht, hc] at hlen1 hlen2
    have l1 := look_at hown1' hkN (ans_at_N _ _ _)
    have l2 := look_at hown1' hkT (ans_at_T _ _ _)
    have l3 := look_at hown1' hkC (ans_at_C _ _ _)
    clear hown1 hbel hbel2
    go_wp2_with fail
    refine (found11 hown1' hkN (ans_at_N _ _ _) (ans_has_N _ _ _)).mono ?_
    rintro e w'' ⟨rfl, rfl⟩
    go_wp2_with fail
    refine (found11 hown1' hkT (ans_at_T _ _ _) (ans_has_T _ _ _)).mono ?_
    rintro e w'' ⟨rfl, rfl⟩
    go_wp2_with fail
    refine (found11 hown1' hkC (ans_at_C _ _ _) (ans_has_C _ _ _)).mono ?_
    rintro e w'' ⟨rfl, rfl⟩
    simp only [hc]
    go_wp2_with fail
    refine (same12 hown1' hown2 hkN (ans_at_N _ _ _)).mono ?_
    rintro e w'' ⟨rfl, rfl⟩
    go_wp2_with fail
    refine (same12 hown1' hown2 hkT (ans_at_T _ _ _)).mono ?_
    rintro e w'' ⟨rfl, rfl⟩
    go_wp2_with fail
    refine (same12 hown1' hown2 hkC (ans_at_C _ _ _)).mono ?_
    rintro e w'' ⟨rfl, rfl⟩
    go_wp2
    go_ret
    exact ⟨rfl, hbw⟩
end Go.Proofs.Qxb6605996a
