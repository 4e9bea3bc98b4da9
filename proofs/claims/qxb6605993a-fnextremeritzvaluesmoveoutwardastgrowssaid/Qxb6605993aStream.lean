/- The walks of the stream: uint64, float64, newStream("ritz-start", n). -/
import Derived.Test.Qxb6605993aFW
import Derived.Lib.ConvBytes
namespace Go.Proofs.Qxb6605993a
open Go.ChangeShapes Go.WideShapes Go.ChangeAt Go.RowKit
attribute [local go_sem] run_fadd run_fsub run_fmul run_fquo

/-- the stream's next state -/
def nextS (s : Nat) : Nat := (s + 11400714819323198485) % 18446744073709551616
theorem nextS_lt (s : Nat) : nextS s < 18446744073709551616 := Nat.mod_lt _ (by omega)
theorem nextS_eq (s : Nat) : IntKind.u64.wrap ((s : Int) + 11400714819323198485) = ((nextS s : Nat) : Int) := by
  have : (s : Int) + 11400714819323198485 = ((s + 11400714819323198485 : Nat) : Int) := by omega
  rw [this, wrap_nat]; rfl

theorem uint40 (b s : Nat) (w : World) (hc : w.cell? ⟨b, 0, none⟩ = some (.int .u64 s)) (hf : w.frozen? ⟨b, 0, none⟩ = false) :
    Calls Try.prog 40 #[.pointer (some ⟨b, 0, none⟩)] w fun e w' => e = .returned (.int .u64 (mixN (nextS s))) ∧ w' = w.setCell ⟨b, 0, none⟩ (.int .u64 (nextS s)) := by
  have h1 := nextS_eq s
  go_enter Try.func40, Try.ntmps40
  go_wp2_with fail
  refine (mix39 (nextS s) (nextS_lt s) _).mono ?_
  rintro e w' ⟨rfl, rfl⟩
  go_wp2
  go_ret
  exact ⟨rfl, rfl⟩

/-- the number drawn, as a word -/
def drawF (u : Nat) : Nat := pf .quo (floatOfInt .f64 ((u / 2048 : Nat) : Int)) 4845873199050653696

theorem float31 (b s : Nat) (w : World) (hc : w.cell? ⟨b, 0, none⟩ = some (.int .u64 s)) (hf : w.frozen? ⟨b, 0, none⟩ = false) :
    Calls Try.prog 31 #[.pointer (some ⟨b, 0, none⟩)] w fun e w' => ∃ r n, e = .returned (.float .f64 r) ∧ cn r = drawF (mixN (nextS s)) ∧ r < 18446744073709551616 ∧ w' = (w.setCell ⟨b, 0, none⟩ (.int .u64 (nextS s))).drewN n := by
  have u44 := Try.underlying44
  have u22 := Try.underlying22
  go_enter Try.func31, Try.ntmps31
  go_wp2_with fail
  refine (uint40 b s _ hc hf).mono ?_
  rintro e w' ⟨rfl, rfl⟩
  go_wp2
  go_ret
  exact ⟨_, _, rfl, cn_fv _ _ _ _, fv_lt _ _ _ _, rfl⟩

/-! ### hash/fnv -/
def fnvStep (h : Nat) (c : UInt8) : Nat := ((h ^^^ c.toNat) * 1099511628211) % 18446744073709551616

theorem new38 (w : World) :
    Calls Try.prog 38 #[] w fun e w' => e = .returned (.iface 68 (.pointer (some ⟨w.heap.size, 0, none⟩))) ∧ w' = w.alloc (.cells #[.int .u64 14695981039346656037] 67) := by
  go_enter Try.func38, Try.ntmps38
  go_wp2
  go_ret
  exact ⟨rfl, rfl⟩

theorem sum64 (b h : Nat) (w : World) (hc : w.cell? ⟨b, 0, none⟩ = some (.int .u64 h)) :
    Calls Try.prog 64 #[.pointer (some ⟨b, 0, none⟩)] w fun e w' => e = .returned (.int .u64 h) ∧ w' = w := by
  go_enter Try.func64, Try.ntmps64
  go_wp2
  go_ret
  exact ⟨rfl, rfl⟩

def fnvTo (ds : List Nat) (h : Nat) : Nat := ds.foldl (fun h c => ((h ^^^ c) * 1099511628211) % 18446744073709551616) h
theorem fnvTo_snoc (ds : List Nat) (c h : Nat) : fnvTo (ds ++ [c]) h = ((fnvTo ds h ^^^ c) * 1099511628211) % 18446744073709551616 := by
  unfold fnvTo; rw [List.foldl_append, List.foldl_cons, List.foldl_nil]
theorem fnvTo_lt (ds : List Nat) (h : Nat) (hh : h < 18446744073709551616) : fnvTo ds h < 18446744073709551616 := by
  unfold fnvTo
  induction ds generalizing h with
  | nil => exact hh
  | cons d ds ih => rw [List.foldl_cons]; exact ih _ (Nat.mod_lt _ (by omega))
theorem fnv_eq (h c : Nat) (hh : h < 18446744073709551616) (hc : c < 256) : IntKind.u64.wrap (bits BinOp.xor IntKind.u64 (h : Int) (c : Int) * 1099511628211) = ((((h ^^^ c) * 1099511628211) % 18446744073709551616 : Nat) : Int) := by
  rw [u64_xor_nat h c hh (by omega), show (((h ^^^ c : Nat) : Int) * 1099511628211) = (((h ^^^ c) * 1099511628211 : Nat) : Int) from by omega, wrap_nat]

theorem val_int {k : IntKind} {a b : Int} (h : a = b) : Value.int k a = .int k b := by rw [h]

theorem fnv_round (ds : List Nat) (k h : Nat) (hk : k < ds.length) (hh : h < 18446744073709551616) (hds : ∀ c ∈ ds, c < 256) :
    IntKind.u64.wrap (bits BinOp.xor IntKind.u64 ((fnvTo (List.take k ds) h : Nat) : Int) (IntKind.u64.wrap ((ds[k] : Nat) : Int)) * 1099511628211) = ((fnvTo (List.take (k + 1) ds) h : Nat) : Int) := by
  have h1 := hds ds[k] (List.getElem_mem hk)
  rw [wrap_nat, Nat.mod_eq_of_lt (by omega), fnv_eq _ _ (fnvTo_lt _ _ hh) h1, List.take_succ_eq_append_getElem hk, fnvTo_snoc]

theorem write65 (b h d cap : Nat) (ds : List Nat) (hh : h < 18446744073709551616) (hds : ∀ c ∈ ds, c < 256) (hlen : ds.length ≤ 100) (w : World) (hc : w.cell? ⟨b, 0, none⟩ = some (.int .u64 h)) (hf : w.frozen? ⟨b, 0, none⟩ = false)
    (hd : ∀ i, i < ds.length → w.cell? ⟨d, i, none⟩ = some (.int .u8 ((ds.getD i 0 : Nat) : Int))) :
    Calls Try.prog 65 #[.pointer (some ⟨b, 0, none⟩), .slice (some ⟨d, 0, none⟩) ds.length cap] w fun e w' => e = .returned (.tuple #[.int .i64 ds.length, .nilIface]) ∧ w' = w.setCell ⟨b, 0, none⟩ (.int .u64 (fnvTo ds h)) := by
  have HD : Hid (∀ i, i < ds.length → w.cell? ⟨d, i, none⟩ = some (.int .u8 ((ds.getD i 0 : Nat) : Int))) := hd
  clear hd
  go_enter Try.func65, Try.ntmps65
  go_wp2
  go_loop [6, 14] (fun t i => ∃ k : Nat, k ≤ ds.length ∧ i = .int .i64 k ∧ t = .int .u64 (fnvTo (ds.take k) h)) (fun _ i => ds.length - (intOf i).toNat)
  case atStart => exact ⟨0, Nat.zero_le _, rfl, rfl⟩
  case round =>
    obtain ⟨k, hk, rfl, rfl⟩ := hrel
    by_cases hlt : k < ds.length
    · have hcell := HD.out k hlt
      go_wp2
      go_round
      case rel => exact ⟨k + 1, by omega, by go_num, val_int (fnv_round ds k h hlt hh hds)⟩
      case measure => simp [intOf]; omega
    · have e : List.take k ds = ds := List.take_of_length_le (by omega)
      go_wp2
      go_ret2
      exact ⟨rfl, rfl⟩

def purpose : ByteArray := ⟨#[114, 105, 116, 122, 45, 115, 116, 97, 114, 116]⟩
def seedBytes : List Nat := [114, 105, 116, 122, 45, 115, 116, 97, 114, 116]

theorem meth_write (a : Addr) (w : World) : (method 188 68 (.pointer (some a)) "Write").run Try.prog w = .ok (65, .pointer (some a)) w := by kernel_rfl
theorem meth_sum (a : Addr) (w : World) : (method 188 68 (.pointer (some a)) "Sum64").run Try.prog w = .ok (64, .pointer (some a)) w := by kernel_rfl

theorem write65' (b h d n cap : Nat) (ds : List Nat) (hn : ds.length = n) (hh : h < 18446744073709551616) (hds : ∀ c ∈ ds, c < 256) (hlen : ds.length ≤ 100) (w : World) (hc : w.cell? ⟨b, 0, none⟩ = some (.int .u64 h)) (hf : w.frozen? ⟨b, 0, none⟩ = false)
    (hd : ∀ i, i < ds.length → w.cell? ⟨d, i, none⟩ = some (.int .u8 ((ds.getD i 0 : Nat) : Int))) :
    Calls Try.prog 65 #[.pointer (some ⟨b, 0, none⟩), .slice (some ⟨d, 0, none⟩) n cap] w fun e w' => e = .returned (.tuple #[.int .i64 n, .nilIface]) ∧ w' = w.setCell ⟨b, 0, none⟩ (.int .u64 (fnvTo ds h)) := by
  subst hn
  exact write65 b h d cap ds hh hds hlen w hc hf hd

/-- the world in which the hash is written: the hash's box, then the purpose's bytes -/
def W1 (w : World) : World := w.alloc (Obj.cells #[Value.int IntKind.u64 14695981039346656037] 67)
def W2 (w : World) : World := Lib.bytesWorld (W1 w) 5 purpose
theorem W1_size (w : World) : (W1 w).heap.size = w.heap.size + 1 := by simp [W1]
theorem W2_size (w : World) : (W2 w).heap.size = w.heap.size + 2 := by unfold W2; rw [Lib.bytesWorld_size, W1_size]
theorem W2_hash (w : World) : (W2 w).cell? ⟨w.heap.size, 0, none⟩ = some (.int .u64 ((14695981039346656037 : Nat) : Int)) := by
  unfold W2; rw [Lib.bytesWorld_old _ _ _ _ (by rw [W1_size]; show w.heap.size < w.heap.size + 1; omega)]
  simp [W1, go_sem]
theorem W2_frozen (w : World) : (W2 w).frozen? ⟨w.heap.size, 0, none⟩ = false := by
  have h : (W2 w).heap[w.heap.size]? = (W1 w).heap[w.heap.size]? := Lib.bytesWorld_at_old _ _ _ _ (by rw [W1_size]; omega)
  rw [World.frozen?_of_block (w := W1 w) h]
  simp [W1, go_sem]
theorem W2_bytes (w : World) (i : Nat) (hi : i < seedBytes.length) : (W2 w).cell? ⟨w.heap.size + 1, i, none⟩ = some (.int .u8 ((seedBytes.getD i 0 : Nat) : Int)) := by
  have h := Lib.bytesWorld_cell (W1 w) 5 purpose i hi
  rw [W1_size] at h
  unfold W2
  rw [h]
  have e : ∀ i, i < 10 → (((purpose.data.toList.getD i 0).toNat : Nat) : Int) = ((seedBytes.getD i 0 : Nat) : Int) := by decide
  exact congrArg some (val_int (e i hi))
theorem W2_below (w : World) : Below w.heap.size w (W2 w) :=
  ⟨rfl, rfl, rfl, by rw [W2_size]; omega, fun k hk => by
    unfold W2; rw [Lib.bytesWorld_at_old _ _ _ _ (by rw [W1_size]; omega)]
    exact Below.heap_alloc w _ k hk⟩

theorem box63 (x : Int) (w : World) : (Instr.build 63 #[(0, .int .u64 x)]).run Try.prog w = .ok (.agg #[.int .u64 x]) w := run_build w 63 _ _ (by kernel_rfl)

theorem new_cell (W w : World) (v : Value) {s : Nat} (hs : W.heap.size = s) (hb : Below w.heap.size w W) :
    s < (W.alloc (.cells #[v] 63)).heap.size ∧ (W.alloc (.cells #[v] 63)).cell? ⟨s, 0, none⟩ = some v ∧ (W.alloc (.cells #[v] 63)).frozen? ⟨s, 0, none⟩ = false ∧ Below w.heap.size w (W.alloc (.cells #[v] 63)) := by
  subst hs
  refine ⟨by simp, by simp [go_sem], ?_, hb.alloc hb.size _⟩
  simp [go_sem]

theorem new30 (w : World) (kb key : Nat) (hkey : key < 18446744073709551616) (hkb : kb < w.heap.size) (hk : w.cell? ⟨kb, 0, none⟩ = some (.int .u64 key)) :
    Calls Try.prog 30 #[.string ⟨#[114, 105, 116, 122, 45, 115, 116, 97, 114, 116]⟩, .slice (some ⟨kb, 0, none⟩) 1 1] w fun e w' =>
      ∃ b, e = .returned (.pointer (some ⟨b, 0, none⟩)) ∧ w.heap.size ≤ b ∧ b < w'.heap.size ∧ w'.cell? ⟨b, 0, none⟩ = some (.int .u64 (mixN (fnvTo seedBytes 14695981039346656037 ^^^ key))) ∧ w'.frozen? ⟨b, 0, none⟩ = false ∧ Below w.heap.size w w' := by
  have kc := fun (w : World) => Lib.run_convert_string_bytes (P := Try.prog) w 43 60 5 purpose Try.underlying43 Try.underlying60 Try.underlying5
  unfold purpose at kc
  have m1 := meth_write
  have m2 := meth_sum
  have hb63 := box63
  go_enter Try.func30, Try.ntmps30
  go_wp2_with fail
  refine (new38 _).mono ?_
  rintro e w' ⟨rfl, rfl⟩
  go_wp2_with fail
  refine (write65' w.heap.size 14695981039346656037 (w.heap.size + 1) 10 _ seedBytes rfl (by omega) (by decide) (by decide) (W2 w) (W2_hash w) (W2_frozen w) (W2_bytes w)).mono ?_
  rintro e w' ⟨rfl, rfl⟩
  have hs3 : ((W2 w).setCell ⟨w.heap.size, 0, none⟩ (Value.int IntKind.u64 ↑(fnvTo seedBytes 14695981039346656037))).heap.size = w.heap.size + 2 := by
    rw [← W2_size w]; simp [World.setCell]
  have hb3 : Below w.heap.size w ((W2 w).setCell ⟨w.heap.size, 0, none⟩ (Value.int IntKind.u64 ↑(fnvTo seedBytes 14695981039346656037))) := (W2_below w).setCell (Nat.le_refl _) _
  have hc3 : ((W2 w).setCell ⟨w.heap.size, 0, none⟩ (Value.int IntKind.u64 ↑(fnvTo seedBytes 14695981039346656037))).cell? ⟨w.heap.size, 0, none⟩ = some (Value.int IntKind.u64 ↑(fnvTo seedBytes 14695981039346656037)) :=
    World.cell?_setCell_same _ _ _ (W2_hash w)
  generalize (W2 w).setCell ⟨w.heap.size, 0, none⟩ (Value.int IntKind.u64 ↑(fnvTo seedBytes 14695981039346656037)) = W3 at *
  have hk3 : W3.cell? ⟨kb, 0, none⟩ = some (.int .u64 key) := (hb3.cell hkb).trans hk
  have HB3 : Hid (Below w.heap.size w W3) := hb3
  clear hb3 kc m1
  go_wp2_with fail
  refine (sum64 w.heap.size (fnvTo seedBytes 14695981039346656037) W3 hc3).mono ?_
  rintro e w3 ⟨rfl, rfl⟩
  have hk4 : ∀ o, (w3.alloc o).cell? ⟨kb, 0, none⟩ = some (.int .u64 key) := fun o => (((Below.refl _ w3).alloc (Nat.le_refl _) o).cell (show kb < w3.heap.size by omega)).trans hk3
  have hx := u64_xor_nat (fnvTo seedBytes 14695981039346656037) key (fnvTo_lt _ _ (by omega)) hkey
  go_wp2
  refine wp_loop_rounds 2 ?_
  rw [rounds_succ]
  go_wp2_with fail
  refine (mix39 _ (xor_lt (fnvTo_lt _ _ (by omega)) hkey) _).mono ?_
  rintro e w' ⟨rfl, rfl⟩
  go_wp2
  rw [rounds_succ]
  go_wp2
  go_ret
  exact ⟨w.heap.size + 2, rfl, by omega, new_cell w3 w _ (by omega) HB3.out⟩
end Go.Proofs.Qxb6605993a
