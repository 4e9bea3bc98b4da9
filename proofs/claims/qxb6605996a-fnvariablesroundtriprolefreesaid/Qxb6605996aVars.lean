/- The walk of 'variables'. -/
import Derived.Test.Qxb6605996aRows
import Derived.Test.Qxb6605996aMapA
import Derived.WalkKit
import Derived.ProofKit
import Derived.OpenShut
import Derived.WalkSpells
import Derived.WalkLawsBesides
import Derived.Maps.RangeWalk
namespace Go.Proofs.Qxb6605996a
open Go.ChangeShapes Go.WideShapes Go.ChangeAt Go.RowKit Go.Maps
open Go.WideMaps Go.WideElems

theorem law9 : Keyed Try.prog 9 := string_keyed Try.underlying9

/-- an entry of a map literal (after 'wpList_mapUpdate_own') -/
theorem wpList_insert_own {H : Type} {P : Program} (w : World) {ops : Array Oper} {rest : List Oper} {o : Oper} {a : Act} {Q : Exit → Act → World → Prop}
    (hg : o.guard = none) (m x v : Operand) (t : TypeId) (hop : o.op = Op.insert t m x v)
    (k e : TypeId) (K : Keyed P k) (ht : P.underlying t = some (.map k e)) (R : Value → Option (DataW H × List MemPlace)) (b n : Nat) (D : DataW H)
    (hm : a.eval m = .map (some b)) (hown : w.ownsMap P k R b n D) (hn : n < maxLen) (key val : Value) (kl : Lit) (hx : a.eval x = key) (hv : a.eval v = val) (hkey : keyOf P k key = some kl)
    (d : DataW H) (ps : List MemPlace) (hval : R val = some (d, ps))
    (hK : ∀ w', w'.ownsMap P k R b (n + 1) (D.put kl d) → w.grownBy w' (some b) → wpList P ops Q rest (a.put o.dst undef) w') :
    wpList P ops Q (o :: rest) a w := by
  refine wpList_plain hg fun K' hK' => ?_
  obtain ⟨w', hrun, r1, r2⟩ := hown.update K ht hn hkey hval
  unfold Oper.wp
  simp [execOp, hop, hm, hx, hv, hrun, Result.andThen]
  exact hK' _ _ (hK w' r1 r2)

theorem keyOf_string_inv {P : Program} {k : TypeId} (hk : P.underlying k = some .string) {key : Value} {kl : Lit} (h : keyOf P k key = some kl) : ∃ x : ByteArray, key = .string x ∧ kl = .string x.data.toList ∧ x.size ≤ maxLen := by
  cases key <;> simp [keyOf, hk, mapKey] at h
  exact ⟨_, rfl, h.2.symm, h.1⟩

/-- the range's step, string keys, string elements (after 'wpList_next_ranges_ii') -/
theorem wpList_next_ranges_ss {H : Type} {P : Program} (w : World) {ops : Array Oper} {rest : List Oper} {o : Oper} {a : Act} {Q : Exit → Act → World → Prop}
    (hg : o.guard = none) (it : Operand) (hop : o.op = Op.next it false) (k e : TypeId) (K : Keyed P k) (hk : P.underlying k = some .string) (he : P.underlying e = some .string)
    (b r n : Nat) (D : DataW H) (left : Lit → Bool) (cnt : Nat) (hit : a.eval it = .pointer (some ⟨r, 0, none⟩)) (h : w.ranges P k (plainElem P e) b r n D left cnt)
    (hDone : cnt = 0 → (∀ kl, left kl = false) → wpList P ops Q rest (a.put o.dst (.tuple #[.bool false])) w)
    (hMore : ∀ (x c : ByteArray) (w' : World) (cnt' : Nat), x.size ≤ maxLen → c.size ≤ maxLen → left (.string x.data.toList) = true → (∀ zd, D.atKey (.string x.data.toList) zd = .lit (.string c.data.toList)) → w'.ranges P k (plainElem P e) b r n D (fun z => left z && !z.sameKey (.string x.data.toList)) cnt' → cnt' < cnt →
      w.grownBy w' (some r) → w'.heap.size = w.heap.size → (Instr.entry (.pointer (some ⟨r, 0, none⟩))).run P w' = .ok (.tuple #[.string x, .string c]) w' → wpList P ops Q rest (a.put o.dst (.tuple #[.bool true, .string x, .string c])) w') :
    wpList P ops Q (o :: rest) a w :=
  wpList_next_ranges w hg it hop k K (plainElem P e) Value.string Value.string (fun key kl hkey => by obtain ⟨x, rfl, _⟩ := keyOf_string_inv hk hkey; exact ⟨x, rfl⟩) (fun v y hv => by obtain ⟨c, rfl, _⟩ := plainElem_string_inv he hv; exact ⟨c, rfl⟩)
    b r n D left cnt hit h hDone (fun x c kl y w' cnt' hkey hlk hv hat hrg hlt hgr hsz hen => by
      obtain ⟨x', ex, rfl, hwx⟩ := keyOf_string_inv hk hkey
      cases ex
      obtain ⟨c', ec, rfl, hwc⟩ := plainElem_string_inv he hv
      cases ec
      exact hMore x c w' cnt' hwx hwc hlk hat hrg hlt hgr hsz hen)

theorem hkN : keyOf Try.prog 9 (.string ⟨#[99, 114, 101, 100, 101, 110, 116, 105, 97, 108, 115, 45, 105, 111, 116, 58, 84, 104, 105, 110, 103, 78, 97, 109, 101]⟩) = some (.string kN) := keyOf_string_mk Try.underlying9 (by decide)
theorem hkT : keyOf Try.prog 9 (.string ⟨#[99, 114, 101, 100, 101, 110, 116, 105, 97, 108, 115, 45, 105, 111, 116, 58, 84, 104, 105, 110, 103, 84, 121, 112, 101, 78, 97, 109, 101]⟩) = some (.string kT) := keyOf_string_mk Try.underlying9 (by decide)
theorem hkC : keyOf Try.prog 9 (.string ⟨#[99, 114, 101, 100, 101, 110, 116, 105, 97, 108, 115, 45, 105, 111, 116, 58, 65, 119, 115, 67, 101, 114, 116, 105, 102, 105, 99, 97, 116, 101, 73, 100]⟩) = some (.string kC) := keyOf_string_mk Try.underlying9 (by decide)

/-- cells of another block stand while a map is written -/
theorem grown_cell {w w' : World} {b : Nat} (h : w.grownBy w' (some b)) {a : Addr} (hlt : a.block < w.heap.size) (hne : a.block ≠ b) : w'.cell? a = w.cell? a := by
  have := h.block a.block hlt (by intro e; injection e with e; exact hne e)
  unfold World.cell?
  rw [this]

/-- the world behind the box and the two maps -/
def W0 (ro ce tn tt : ByteArray) (w : World) : World := ((w.alloc (Obj.cells #[Value.string ro, Value.string ce, Value.string tn, Value.string tt] 45)).alloc (Obj.map #[] 0)).alloc (Obj.map #[] 0)
theorem W0_size (ro ce tn tt : ByteArray) (w : World) : (W0 ro ce tn tt w).heap.size = w.heap.size + 3 := by simp [W0]
theorem W0_cell (ro ce tn tt : ByteArray) (w : World) : (W0 ro ce tn tt w).cell? ⟨w.heap.size, 1, none⟩ = some (.string ce) ∧ (W0 ro ce tn tt w).cell? ⟨w.heap.size, 2, none⟩ = some (.string tn) ∧ (W0 ro ce tn tt w).cell? ⟨w.heap.size, 3, none⟩ = some (.string tt) := by
  simp [W0, go_sem]
theorem W0_src (ro ce tn tt : ByteArray) (w : World) : (W0 ro ce tn tt w).ownsMap (H := Unit) Try.prog 9 (plainElem Try.prog 9) (w.heap.size + 2) 0 (.map []) := by
  have := World.ownsMap_made (H := Unit) ((w.alloc (Obj.cells #[Value.string ro, Value.string ce, Value.string tn, Value.string tt] 45)).alloc (Obj.map #[] 0)) Try.prog 9 (plainElem Try.prog 9)
  have e : ((w.alloc (Obj.cells #[Value.string ro, Value.string ce, Value.string tn, Value.string tt] 45)).alloc (Obj.map #[] 0)).heap.size = w.heap.size + 2 := by simp
  rw [e] at this; exact this
theorem W0_out (ro ce tn tt : ByteArray) (w : World) : (W0 ro ce tn tt w).ownsMap (H := Unit) Try.prog 9 (plainElem Try.prog 9) (w.heap.size + 1) 0 (.map []) := by
  have := (World.ownsMap_made (H := Unit) (w.alloc (Obj.cells #[Value.string ro, Value.string ce, Value.string tn, Value.string tt] 45)) Try.prog 9 (plainElem Try.prog 9)).alloc (Obj.map #[] 0)
  have e : (w.alloc (Obj.cells #[Value.string ro, Value.string ce, Value.string tn, Value.string tt] 45)).heap.size = w.heap.size + 1 := by simp
  rw [e] at this; exact this
theorem W0_below (ro ce tn tt : ByteArray) (w : World) : Below w.heap.size w (W0 ro ce tn tt w) :=
  (((Below.refl _ _).alloc (Nat.le_refl _) _).alloc (by simp) _).alloc (by simp; omega) _

theorem own_one {w : World} {b m : Nat} {D : DataW Unit} (h : w.ownsMap Try.prog 9 (plainElem Try.prog 9) b m D) (hm : m < maxLen) {key v : ByteArray} {k : List UInt8} (hk : keyOf Try.prog 9 (.string key) = some (.string k)) (hv : v.size ≤ maxLen) :
    ∃ w' : World, w'.ownsMap (H := Unit) Try.prog 9 (plainElem Try.prog 9) b (m + 1) (one D k v.data.toList) := by
  unfold one; split
  · exact ⟨w, h.mono (Nat.le_succ _)⟩
  · obtain ⟨w', _, h', _⟩ := h.update law9 Try.underlying23 hm hk (plainElem_string Try.underlying9 hv)
    exact ⟨w', h'⟩

/-- the answer is in canonical form: some world holds it -/
theorem canon_ans (w : World) (tn tt ce : ByteArray) (htn : tn.size ≤ maxLen) (htt : tt.size ≤ maxLen) (hce : ce.size ≤ maxLen) : Canon (ans (H := Unit) tn.data.toList tt.data.toList ce.data.toList) := by
  obtain ⟨w1, h1⟩ := own_one (World.ownsMap_made (H := Unit) w Try.prog 9 (plainElem Try.prog 9)) (by decide) hkN htn
  obtain ⟨w2, h2⟩ := own_one h1 (by decide) hkT htt
  obtain ⟨w3, h3⟩ := own_one h2 (by decide) hkC hce
  exact h3.canon law9

theorem vars18 (ro ce tn tt : ByteArray) (hce : ce.size ≤ maxLen) (htn : tn.size ≤ maxLen) (htt : tt.size ≤ maxLen) (w : World) :
    Calls Try.prog 18 #[.agg #[.string ro, .string ce, .string tn, .string tt]] w fun e w' => e = .returned (.map (some (w.heap.size + 1))) ∧
      w'.ownsMap (H := Unit) Try.prog 9 (plainElem Try.prog 9) (w.heap.size + 1) 3 (ans tn.data.toList tt.data.toList ce.data.toList) ∧ Below w.heap.size w w' := by
  have hmm := @run_makeMap Try.prog
  have tok1 : True := trivial
  have hz := W0_size ro ce tn tt w
  obtain ⟨c1, c2, c3⟩ := W0_cell ro ce tn tt w
  have hsrc := W0_src ro ce tn tt w
  have hout := W0_out ro ce tn tt w
  have hbel := W0_below ro ce tn tt w
  clear c2
  have HZ : Hid ((W0 ro ce tn tt w).heap.size = w.heap.size + 3) := hz
  have C1 : Hid ((W0 ro ce tn tt w).cell? ⟨w.heap.size, 1, none⟩ = some (.string ce)) := c1
  have C3 : Hid ((W0 ro ce tn tt w).cell? ⟨w.heap.size, 3, none⟩ = some (.string tt)) := c3
  clear hz c1 c3
  go_enter Try.func18, Try.ntmps18
  go_wp2_with (first
    | (have _t := tok1; refine wpList_insert_own (W0 ro ce tn tt w) rfl _ _ _ 23 rfl 9 9 law9 Try.underlying23 (plainElem (H := Unit) Try.prog 9) (w.heap.size + 2) 0 (.map []) rfl hsrc (by decide) _ _ _ rfl rfl hkN _ [] (plainElem_string Try.underlying9 htn) ?_; intro w1 hown1 hg1; clear tok1
       have d3 : w1.cell? ⟨w.heap.size, 3, none⟩ = some (.string tt) := (grown_cell hg1 (by rw [HZ.out]; show w.heap.size < w.heap.size + 3; omega) (by show w.heap.size ≠ w.heap.size + 2; omega)).trans C3.out)
    | (refine wpList_insert_own w1 rfl _ _ _ 23 rfl 9 9 law9 Try.underlying23 (plainElem (H := Unit) Try.prog 9) (w.heap.size + 2) 1 _ rfl hown1 (by decide) _ _ _ rfl rfl hkT _ [] (plainElem_string Try.underlying9 htt) ?_; intro w2 hown2 hg2
       have hg12 := hg1.trans hg2
       clear hown1 d3 hg1 hg2
       have d1 : w2.cell? ⟨w.heap.size, 1, none⟩ = some (.string ce) := (grown_cell hg12 (by rw [HZ.out]; show w.heap.size < w.heap.size + 3; omega) (by show w.heap.size ≠ w.heap.size + 2; omega)).trans C1.out)
    | (refine wpList_insert_own w2 rfl _ _ _ 23 rfl 9 9 law9 Try.underlying23 (plainElem (H := Unit) Try.prog 9) (w.heap.size + 2) 2 _ rfl hown2 (by decide) _ _ _ rfl rfl hkC _ [] (plainElem_string Try.underlying9 hce) ?_; intro w3 hown3 hg3
       have hg03 := hg12.trans hg3
       clear hown2 d1 hg12 hg3)
    | (at_range; refine wpList_range_own _ rfl _ 23 rfl 9 9 law9 Try.underlying23 _ (w.heap.size + 2) 3 _ rfl hown3 ?_; intro w4 hrg0 hg4 hs4)
    | go_in)
  go_frame
  have hsz : w.heap.size + 3 ≤ w3.heap.size := by have := hg03.size; rw [HZ.out] at this; exact this
  have hout4 := (hout.kept hg03 (by intro e; have := Option.some.inj e; omega)).kept hg4 (by simp)
  have hbel4 : Below w.heap.size w w4 := (hbel.grown hg03 (by rw [HZ.out]; omega) (fun j hj => by cases hj; omega)).grown hg4 (by omega) (fun j hj => by cases hj)
  have hcanon := (canon_ans w tn tt ce htn htt hce)
  clear hg03 hg4 hown3 hout hbel hsrc HZ C1 C3
  change w4.ranges Try.prog 9 (plainElem Try.prog 9) (w.heap.size + 2) w3.heap.size 3 (src tn.data.toList tt.data.toList ce.data.toList) (Maps.has (src tn.data.toList tt.data.toList ce.data.toList)) (Maps.size (src tn.data.toList tt.data.toList ce.data.toList)) at hrg0
  rw [src_size] at hrg0
  generalize hD : src (H := Unit) tn.data.toList tt.data.toList ce.data.toList = D0 at hrg0
  have HD : Hid (src (H := Unit) tn.data.toList tt.data.toList ce.data.toList = D0) := hD
  clear hD
  have HC : Hid (Canon (ans (H := Unit) tn.data.toList tt.data.toList ce.data.toList)) := hcanon
  clear hcanon
  go_loopw [4] (fun _ wr => ∃ (left : Lit → Bool) (cnt : Nat) (Dout : DataW Unit), wr.ranges Try.prog 9 (plainElem Try.prog 9) (w.heap.size + 2) w3.heap.size 3 D0 left cnt ∧ cnt ≤ 3 ∧
      wr.ownsMap Try.prog 9 (plainElem Try.prog 9) (w.heap.size + 1) (3 - cnt) Dout ∧ Filt Dout D0 left ∧ Below w.heap.size w wr ∧ w3.heap.size ≤ wr.heap.size)
    (fun _ wr => wr.rangeLeft (w.heap.size + 2) w3.heap.size)
  case atStart =>
    exact ⟨_, _, .map [], hrg0, Nat.le_refl _, hout4, filt_start D0, hbel4, by omega⟩
  case round =>
    obtain ⟨left, cnt, Dout, hrg, hcs, hout, hA, hnx, hsw⟩ := hrel
    go_wp2_with (first
      | (at_next; refine wpList_next_ranges_ss _ rfl _ rfl 9 9 law9 Try.underlying9 Try.underlying9 (w.heap.size + 2) w3.heap.size 3 _ _ _ rfl hrg ?_ ?_)
      | go_in)
    · intro hc0 hl0
      go_wp2
      go_ret
      subst hc0
      have e := filt_end hA hl0 (hout.canon law9) (HD.out ▸ filt_ans tn.data.toList tt.data.toList ce.data.toList) HC.out
      subst e
      exact ⟨rfl, by simpa using hout, hnx⟩
    · intro x c wn cnt1 hwx hwc hlx hat hrg1 hlt hg1 hs1 hen
      have hout1 := hout.kept hg1 (by intro e; have := Option.some.inj e; omega)
      have hnx1 := hnx.grown hg1 hnx.size (fun j hj => by cases hj; omega)
      by_cases hc : c.toList.isEmpty = true
      · go_wp2
        go_roundw
        case rel => exact ⟨_, cnt1, Dout, hrg1, by omega, hout1.mono (by omega), filt_skip hA hat (by rw [← ByteArray.toList_eq]; exact (nonEmp_str _).trans (by rw [hc]; rfl)), hnx1, by omega⟩
        case measure => rw [hrg1.left_eq, hrg.left_eq]; exact hlt
      · have hc' : c.toList.isEmpty = false := by simpa using hc
        clear hc
        go_wp2_with (first
          | (at_mapUpdate; refine wpList_mapUpdate_own _ rfl _ _ _ 42 rfl 9 9 law9 Try.underlying42 _ (w.heap.size + 1) _ _ rfl hout1 (by unfold maxLen; omega) _ _ _ rfl rfl (keyOf_string_mk Try.underlying9 hwx) _ [] (plainElem_string Try.underlying9 hwc) ?_; intro w2 hout2 hg2; go_frame)
          | go_in)
        have hrg2 := hrg1.kept hg2 (fun e => by have := Option.some.inj e; omega) (fun e => by have := Option.some.inj e; omega)
        go_roundw
        case rel =>
          exact ⟨_, cnt1, _, hrg2, by omega, hout2.mono (by omega), filt_put hA hout.isMap (sk _) hat (by rw [← ByteArray.toList_eq]; exact (nonEmp_str _).trans (by rw [hc']; rfl)),
            hnx1.grown hg2 (by have := hnx.size; omega) (fun j hj => by cases hj; omega), by have := hg2.size; omega⟩
        case measure => rw [hrg2.left_eq, hrg.left_eq]; exact hlt
end Go.Proofs.Qxb6605996a
