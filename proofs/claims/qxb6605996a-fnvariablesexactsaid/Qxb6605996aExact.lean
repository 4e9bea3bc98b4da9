/- The walk of the law FnVariablesExact. -/
import Derived.Test.Qxb6605996aLooks
namespace Go.Proofs.Qxb6605996a
open Go.ChangeShapes Go.WideShapes Go.ChangeAt Go.RowKit Go.Maps
open Go.WideMaps Go.WideElems

theorem exact_far (a0 a1 a2 a3 : ByteArray) (w0 : a0.size ≤ maxLen) (w1 : a1.size ≤ maxLen) (w2 : a2.size ≤ maxLen) (w3 : a3.size ≤ maxLen) (w : World) (h : 1048576 < a0.size + a1.size + a2.size + a3.size) :
    Calls Try.prog 3 #[.string a0, .string a1, .string a2, .string a3] w fun e w' => e = .returned (.bool true) ∧ Below w.heap.size w w' := by
  go_enter Try.func3, Try.ntmps3
  go_wp2_with (go_at_call 7; refine (bytes7no _ _ _ _ _ w0 w1 w2 w3 h).mono ?_; rintro e w' ⟨rfl, rfl⟩)
  go_ret
  exact ⟨rfl, Below.refl _ _⟩

/-- the number of entries, in the walk's words -/
theorem size_walk (n t c : ByteArray) (z : Int) (h : z = ((if n.toList.isEmpty then 0 else 1) + (if t.toList.isEmpty then 0 else 1) + (if c.toList.isEmpty then 0 else 1) : Nat)) :
    ((Maps.size (ans (H := Unit) n.data.toList t.data.toList c.data.toList) : Nat) : Int) = z := by
  rw [ans_size, h, ByteArray.toList_eq, ByteArray.toList_eq, ByteArray.toList_eq]

set_option maxHeartbeats 4000000 in
theorem exact_near (a0 a1 a2 a3 : ByteArray) (w1 : a1.size ≤ maxLen) (w2 : a2.size ≤ maxLen) (w3 : a3.size ≤ maxLen) (w : World) (h : a0.size + a1.size + a2.size + a3.size ≤ 1048576)
    (n t c : Bool) (hn : a2.toList.isEmpty = n) (ht : a3.toList.isEmpty = t) (hc : a1.toList.isEmpty = c) :
    Calls Try.prog 3 #[.string a0, .string a1, .string a2, .string a3] w fun e w' => e = .returned (.bool true) ∧ Below w.heap.size w w' := by
  cases n <;> cases t <;> cases c
  all_goals
    go_enter Try.func3, Try.ntmps3
    go_wp2_with fail
    refine (bytes7 _ _ _ _ _ h).mono ?_
    rintro e w' ⟨rfl, rfl⟩
    go_wp2_with fail
    refine (zzvars8 _ _ _ _ w1 w2 w3 _).mono ?_
    rintro e W ⟨rfl, hown, hbel⟩
    have hlen := fun ty => hown.len Try.underlying23 ty
    rw [size_walk a2 a3 a1 _ rfl] at hlen
    simp [hn, ht, hc] at hlen
    go_wp2_with fail
    refine (holds9 hown hkN (ans_at_N _ _ _) (ans_has_N _ _ _)).mono ?_
    rintro e w'' ⟨rfl, rfl⟩
    go_wp2_with fail
    refine (holds9 hown hkT (ans_at_T _ _ _) (ans_has_T _ _ _)).mono ?_
    rintro e w'' ⟨rfl, rfl⟩
    go_wp2_with fail
    refine (holds9 hown hkC (ans_at_C _ _ _) (ans_has_C _ _ _)).mono ?_
    rintro e w'' ⟨rfl, rfl⟩
    go_wp2
    go_ret
    exact ⟨rfl, hbel⟩
end Go.Proofs.Qxb6605996a
