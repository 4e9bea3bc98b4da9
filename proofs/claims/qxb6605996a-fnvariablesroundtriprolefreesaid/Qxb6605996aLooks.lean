/- The walks of ZZvariables, zzHoldsExactly, zzFound, zzSameOnKey, zzBytes_... -/
import Derived.Test.Qxb6605996aVars
namespace Go.Proofs.Qxb6605996a
open Go.ChangeShapes Go.WideShapes Go.ChangeAt Go.RowKit Go.Maps
open Go.WideMaps Go.WideElems

theorem build45 (a b c d : ByteArray) (w : World) : (Instr.build 45 #[(0, .string a), (1, .string b), (2, .string c), (3, .string d)]).run Try.prog w = .ok (.agg #[.string a, .string b, .string c, .string d]) w := run_build w 45 _ _ (by kernel_rfl)

theorem zzvars8 (ro ce tn tt : ByteArray) (hce : ce.size ≤ maxLen) (htn : tn.size ≤ maxLen) (htt : tt.size ≤ maxLen) (w : World) :
    Calls Try.prog 8 #[.string ro, .string ce, .string tn, .string tt] w fun e w' => e = .returned (.map (some (w.heap.size + 1))) ∧
      w'.ownsMap (H := Unit) Try.prog 9 (plainElem Try.prog 9) (w.heap.size + 1) 3 (ans tn.data.toList tt.data.toList ce.data.toList) ∧ Below w.heap.size w w' := by
  have hb := build45 ro ce tn tt
  go_enter Try.func8, Try.ntmps8
  go_wp2_with (go_at_call 18; refine (vars18 _ _ _ _ hce htn htt _).mono ?_; rintro e w' ⟨rfl, hown, hbel⟩)
  go_ret
  exact ⟨rfl, hown, hbel⟩

theorem zero9 (w : World) : (zeroValue 9).run Try.prog w = .ok (.string ByteArray.empty) w := by kernel_rfl

/-- a look-up with 'ok', elements of type string -/
theorem look_ok {w : World} {b n : Nat} {D : DataW Unit} (h : w.ownsMap Try.prog 9 (plainElem Try.prog 9) b n D) {key : Value} {k v : List UInt8} (hkey : keyOf Try.prog 9 key = some (.string k)) (hat : D.atKey (.string k) (str []) = str v) :
    ∃ s : ByteArray, s.data.toList = v ∧ (Instr.lookup 23 (.map (some b)) key true).run Try.prog w = .ok (.tuple #[.string s, .bool (Maps.has D (.string k))]) w := by
  obtain ⟨u, ps, hrun, hv⟩ := h.look_ok law9 Try.underlying23 (zero9 w) (plainElem_string Try.underlying9 (by decide)) hkey
  obtain ⟨s, rfl, hs, _⟩ := plainElem_string_inv Try.underlying9 hv
  have e := congrArg Prod.fst hs
  simp only at e
  change D.atKey (.string k) (str []) = str s.data.toList at e
  rw [hat] at e
  unfold str at e
  injection e with e
  injection e with e
  exact ⟨s, e.symm, hrun⟩

theorem holds9 {w : World} {b n : Nat} {D : DataW Unit} (h : w.ownsMap Try.prog 9 (plainElem Try.prog 9) b n D) {key : ByteArray} {k : List UInt8} {v : ByteArray} (hkey : keyOf Try.prog 9 (.string key) = some (.string k)) (hat : D.atKey (.string k) (str []) = str v.data.toList) (hh : Maps.has D (.string k) = !v.data.toList.isEmpty) :
    Calls Try.prog 9 #[.map (some b), .string key, .string v] w fun e w' => e = .returned (.bool true) ∧ w' = w := by
  obtain ⟨s, hs, hrun⟩ := look_ok h hkey hat
  rw [hh, ← ByteArray.toList_eq] at hrun
  have hsv : s = v := bytes_inj hs
  subst hsv
  clear hat hh hs h hkey
  by_cases hc : s.toList.isEmpty = true
  · rw [hc] at hrun
    go_enter Try.func9, Try.ntmps9
    go_wp2
    all_goals (go_ret; exact ⟨by first | rfl | simp [hc], rfl⟩)
  · have hc' : s.toList.isEmpty = false := by simpa using hc
    rw [hc'] at hrun
    clear hc
    go_enter Try.func9, Try.ntmps9
    go_wp2
    all_goals (go_ret; exact ⟨by first | rfl | simp [hc'], rfl⟩)

theorem found11 {w : World} {b n : Nat} {D : DataW Unit} (h : w.ownsMap Try.prog 9 (plainElem Try.prog 9) b n D) {key : ByteArray} {k : List UInt8} {v : List UInt8} (hkey : keyOf Try.prog 9 (.string key) = some (.string k)) (hat : D.atKey (.string k) (str []) = str v) (hh : Maps.has D (.string k) = !v.isEmpty) :
    Calls Try.prog 11 #[.map (some b), .string key] w fun e w' => e = .returned (.int .i64 (if v.isEmpty then 0 else 1)) ∧ w' = w := by
  obtain ⟨s, hs, hrun⟩ := look_ok h hkey hat
  rw [hh] at hrun
  clear hat hh hs h hkey
  by_cases hc : v.isEmpty = true
  · rw [hc] at hrun ⊢
    go_enter Try.func11, Try.ntmps11
    go_wp2
    all_goals (go_ret; exact ⟨rfl, rfl⟩)
  · have hc' : v.isEmpty = false := by simpa using hc
    rw [hc'] at hrun ⊢
    clear hc
    go_enter Try.func11, Try.ntmps11
    go_wp2
    all_goals (go_ret; exact ⟨rfl, rfl⟩)

theorem same12 {w : World} {b1 n1 b2 n2 : Nat} {D : DataW Unit} (h1 : w.ownsMap Try.prog 9 (plainElem Try.prog 9) b1 n1 D) (h2 : w.ownsMap Try.prog 9 (plainElem Try.prog 9) b2 n2 D) {key : ByteArray} {k : List UInt8} {v : List UInt8} (hkey : keyOf Try.prog 9 (.string key) = some (.string k)) (hat : D.atKey (.string k) (str []) = str v) :
    Calls Try.prog 12 #[.map (some b1), .map (some b2), .string key] w fun e w' => e = .returned (.bool true) ∧ w' = w := by
  obtain ⟨s, hs, hrun1⟩ := look_ok h1 hkey hat
  obtain ⟨s', hs', hrun2⟩ := look_ok h2 hkey hat
  have hss : s' = s := bytes_inj (hs'.trans hs.symm)
  subst hss
  clear hat hs hs' h1 h2 hkey
  generalize Maps.has D (.string k) = hb at hrun1 hrun2
  cases hb
  · go_enter Try.func12, Try.ntmps12
    go_wp2
    all_goals (go_ret; exact ⟨by first | rfl | simp, rfl⟩)
  · go_enter Try.func12, Try.ntmps12
    go_wp2
    all_goals (go_ret; exact ⟨by first | rfl | simp, rfl⟩)

theorem ret_bool {a b : Bool} (h : a = b) : Ending.returned (.bool a) = .returned (.bool b) := by rw [h]

theorem bytes7 (a0 a1 a2 a3 : ByteArray) (w : World) (h : a0.size + a1.size + a2.size + a3.size ≤ 1048576) :
    Calls Try.prog 7 #[.string a0, .string a1, .string a2, .string a3] w fun e w' => e = .returned (.bool true) ∧ w' = w := by
  go_enter Try.func7, Try.ntmps7
  go_wp2
  all_goals (go_ret; exact ⟨rfl, rfl⟩)

theorem bytes7no (a0 a1 a2 a3 : ByteArray) (w : World) (w0 : a0.size ≤ maxLen) (w1 : a1.size ≤ maxLen) (w2 : a2.size ≤ maxLen) (w3 : a3.size ≤ maxLen) (h : 1048576 < a0.size + a1.size + a2.size + a3.size) :
    Calls Try.prog 7 #[.string a0, .string a1, .string a2, .string a3] w fun e w' => e = .returned (.bool false) ∧ w' = w := by
  unfold maxLen at w0 w1 w2 w3
  go_enter Try.func7, Try.ntmps7
  go_wp2
  all_goals (go_ret; exact ⟨rfl, rfl⟩)

theorem bytes10 (a0 a1 a2 a3 a4 : ByteArray) (w : World) (h : a0.size + a1.size + a2.size + a3.size + a4.size ≤ 1048576) :
    Calls Try.prog 10 #[.string a0, .string a1, .string a2, .string a3, .string a4] w fun e w' => e = .returned (.bool true) ∧ w' = w := by
  go_enter Try.func10, Try.ntmps10
  go_wp2
  all_goals (go_ret; exact ⟨rfl, rfl⟩)

theorem bytes10no (a0 a1 a2 a3 a4 : ByteArray) (w : World) (w0 : a0.size ≤ maxLen) (w1 : a1.size ≤ maxLen) (w2 : a2.size ≤ maxLen) (w3 : a3.size ≤ maxLen) (w4 : a4.size ≤ maxLen) (h : 1048576 < a0.size + a1.size + a2.size + a3.size + a4.size) :
    Calls Try.prog 10 #[.string a0, .string a1, .string a2, .string a3, .string a4] w fun e w' => e = .returned (.bool false) ∧ w' = w := by
  unfold maxLen at w0 w1 w2 w3 w4
  go_enter Try.func10, Try.ntmps10
  go_wp2
  all_goals (go_ret; exact ⟨rfl, rfl⟩)
end Go.Proofs.Qxb6605996a
