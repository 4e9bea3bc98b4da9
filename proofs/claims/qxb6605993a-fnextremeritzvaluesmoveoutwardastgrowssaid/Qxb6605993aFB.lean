/- Blocks of floats in memory. -/
import Derived.Test.Qxb6605993aFW
namespace Go.Proofs.Qxb6605993a
open Go.RowKit

/-- block B is a row of float64s, not frozen -/
def FB (w : World) (B : Nat) (xs : List Nat) : Prop := w.heap[B]? = some (.cells (xs.map (Value.float .f64)).toArray 22)

section
variable {w : World} {B : Nat} {xs : List Nat}
theorem FB.cell (h : FB w B xs) {k : Nat} (hk : k < xs.length) : w.cell? ⟨B, k, none⟩ = some (.float .f64 (xs.getD k 0)) := by
  unfold FB at h
  simp [World.cell?, h, hk]
theorem FB.frozen (h : FB w B xs) (k : Nat) : w.frozen? ⟨B, k, none⟩ = false := by
  unfold FB at h
  simp [World.frozen?, h]
theorem FB.lt (h : FB w B xs) : B < w.heap.size := by
  unfold FB at h
  rcases Nat.lt_or_ge B w.heap.size with h1 | h1
  · exact h1
  · rw [Array.getElem?_eq_none h1] at h; cases h
theorem FB.set (h : FB w B xs) (k v : Nat) : FB (w.setCell ⟨B, k, none⟩ (.float .f64 v)) B (xs.set k v) := by
  unfold FB at h ⊢
  simp only [World.setCell]
  rw [Array.getElem?_modify, if_pos rfl, h]
  simp
theorem FB.other (h : FB w B xs) {p : Addr} (hne : B ≠ p.block) (v : Value) : FB (w.setCell p v) B xs := by
  unfold FB at h ⊢
  rw [Below.heap_setCell _ _ _ _ hne]; exact h
theorem FB.drewN (h : FB w B xs) (n : Nat) : FB (w.drewN n) B xs := h
theorem FB.drew (h : FB w B xs) : FB w.drew B xs := h
theorem FB.alloc (h : FB w B xs) (o : Obj) : FB (w.alloc o) B xs := by
  have := h.lt
  unfold FB at h ⊢
  rw [Below.heap_alloc _ _ _ this]; exact h
theorem FB.below {w' : World} {b : Nat} (h : FB w B xs) (hb : Below b w w') (hB : B < b) : FB w' B xs := by
  unfold FB at h ⊢
  rw [hb.block B hB]; exact h
theorem FB.grown {w' : World} {row : Option Nat} (h : FB w B xs) (hg : w.grownBy w' row) (hne : some B ≠ row) : FB w' B xs := by
  have := h.lt
  unfold FB at h ⊢
  rw [hg.block B this hne]; exact h
end

theorem FB.made (w : World) (n : Nat) : FB (w.alloc (.cells (madeCells #[.float .f64 0] n) 22)) w.heap.size (List.replicate n 0) := by
  unfold FB
  have e : madeCells #[.float .f64 0] n = ((List.replicate n 0).map (Value.float .f64)).toArray := by
    unfold madeCells
    apply Array.ext
    · simp
    · intro i h1 h2
      simp [Nat.mod_one]
  rw [e]
  exact (MapKept.heap_alloc w _).1

theorem grown_refl (w : World) (row : Option Nat) : w.grownBy w row := ⟨rfl, rfl, rfl, Nat.le_refl _, fun _ _ _ => rfl⟩
theorem grown_drewN {w w' : World} {row : Option Nat} (h : w.grownBy w' row) (n : Nat) : w.grownBy (w'.drewN n) row := ⟨h.os, h.tape, h.output, h.size, h.block⟩
theorem grown_drew {w w' : World} {row : Option Nat} (h : w.grownBy w' row) : w.grownBy w'.drew row := ⟨h.os, h.tape, h.output, h.size, h.block⟩
theorem size_setCell (w : World) (a : Addr) (v : Value) : (w.setCell a v).heap.size = w.heap.size := by simp [World.setCell]
theorem grown_set {w w' : World} {B : Nat} (h : w.grownBy w' (some B)) (k : Nat) (v : Value) : w.grownBy (w'.setCell ⟨B, k, none⟩ v) (some B) :=
  ⟨h.os, h.tape, h.output, by rw [size_setCell]; exact h.size, fun i hi hne => by
    rw [Below.heap_setCell _ _ _ _ (fun e => hne (by rw [e]))]; exact h.block i hi hne⟩

/-- 64-bit words -/
def W64 (xs : List Nat) : Prop := ∀ x ∈ xs, x < 18446744073709551616
theorem W64.get {xs : List Nat} (h : W64 xs) (k : Nat) : xs.getD k 0 < 18446744073709551616 := by
  by_cases hk : k < xs.length
  · rw [List.getD_eq_getElem?_getD, List.getElem?_eq_getElem hk]; exact h _ (List.getElem_mem hk)
  · rw [List.getD_eq_getElem?_getD, List.getElem?_eq_none (by omega)]; exact (by decide : (0 : Nat) < 18446744073709551616)
theorem W64.set {xs : List Nat} (h : W64 xs) (k : Nat) {v : Nat} (hv : v < 18446744073709551616) : W64 (xs.set k v) := by
  intro x hx
  rcases List.mem_or_eq_of_mem_set hx with h1 | h1
  · exact h x h1
  · rw [h1]; exact hv
theorem map_cn_getD (xs : List Nat) (k : Nat) : (xs.map cn).getD k 0 = cn (xs.getD k 0) := by
  rw [List.getD_eq_getElem?_getD, List.getD_eq_getElem?_getD, List.getElem?_map]
  cases xs[k]? with
  | none => rfl
  | some v => rfl
theorem map_cn_set (xs : List Nat) (k v : Nat) : (xs.set k v).map cn = (xs.map cn).set k (cn v) := by
  rw [List.map_set]

end Go.Proofs.Qxb6605993a
