/- The struct of the four Ritz numbers in memory. -/
import Derived.Test.Qxb6605993aBis
import Derived.Test.Qxb6605993aEig
namespace Go.Proofs.Qxb6605993a
open Go.RowKit

/-- block B is a struct of float64s -/
def RB (w : World) (B : Nat) (xs : List Nat) : Prop := w.heap[B]? = some (.cells (xs.map (Value.float .f64)).toArray 39)

section
variable {w : World} {B : Nat} {xs : List Nat}
theorem RB.cell (h : RB w B xs) {k : Nat} (hk : k < xs.length) : w.cell? ⟨B, k, none⟩ = some (.float .f64 (xs.getD k 0)) := by
  unfold RB at h
  simp [World.cell?, h, hk]
theorem RB.frozen (h : RB w B xs) (k : Nat) : w.frozen? ⟨B, k, none⟩ = false := by
  unfold RB at h
  simp [World.frozen?, h]
theorem RB.lt (h : RB w B xs) : B < w.heap.size := by
  unfold RB at h
  rcases Nat.lt_or_ge B w.heap.size with h1 | h1
  · exact h1
  · rw [Array.getElem?_eq_none h1] at h; cases h
theorem RB.set (h : RB w B xs) (k v : Nat) : RB (w.setCell ⟨B, k, none⟩ (.float .f64 v)) B (xs.set k v) := by
  unfold RB at h ⊢
  simp only [World.setCell]
  rw [Array.getElem?_modify, if_pos rfl, h]
  simp
theorem RB.other (h : RB w B xs) {p : Addr} (hne : B ≠ p.block) (v : Value) : RB (w.setCell p v) B xs := by
  unfold RB at h ⊢
  rw [Below.heap_setCell _ _ _ _ hne]; exact h
theorem RB.drewN (h : RB w B xs) (n : Nat) : RB (w.drewN n) B xs := h
theorem RB.alloc (h : RB w B xs) (o : Obj) : RB (w.alloc o) B xs := by
  have := h.lt
  unfold RB at h ⊢
  rw [Below.heap_alloc _ _ _ this]; exact h
theorem RB.below {w' : World} {b : Nat} (h : RB w B xs) (hb : Below b w w') (hB : B < b) : RB w' B xs := by
  unfold RB at h ⊢
  rw [hb.block B hB]; exact h
theorem RB.made (w : World) (xs : List Nat) : RB (w.alloc (.cells (xs.map (Value.float .f64)).toArray 39)) w.heap.size xs := by
  unfold RB
  exact (MapKept.heap_alloc w _).1
end

/-- the memory while extremeRitzValues runs -/
structure RM (w wc : World) (A O : Nat) (al be vs : List Nat) : Prop where
  a : FB wc A al
  o : FB wc O be
  r0 : RB wc w.heap.size [0, 0, 0, 0]
  r1 : RB wc (w.heap.size + 1) vs
  b : Below w.heap.size w wc
  sz : w.heap.size + 2 ≤ wc.heap.size

section
variable {w wc : World} {A O : Nat} {al be vs : List Nat}
theorem RM.start (hA : FB w A al) (hO : FB w O be) :
    RM w ((w.alloc (.cells #[.float .f64 0, .float .f64 0, .float .f64 0, .float .f64 0] 39)).alloc (.cells #[.float .f64 0, .float .f64 0, .float .f64 0, .float .f64 0] 39)) A O al be [0, 0, 0, 0] := by
  have s1 : (w.alloc (.cells #[.float .f64 0, .float .f64 0, .float .f64 0, .float .f64 0] 39)).heap.size = w.heap.size + 1 := by simp
  refine ⟨(hA.alloc _).alloc _, (hO.alloc _).alloc _, (RB.made w [0, 0, 0, 0]).alloc _, ?_, ((Below.refl _ _).alloc (Nat.le_refl _) _).alloc (by rw [s1]; omega) _, ?_⟩
  · have := RB.made (w.alloc (.cells #[.float .f64 0, .float .f64 0, .float .f64 0, .float .f64 0] 39)) [0, 0, 0, 0]
    rw [s1] at this
    exact this
  · simp
theorem RM.drewN (h : RM w wc A O al be vs) (n : Nat) : RM w (wc.drewN n) A O al be vs := ⟨h.a, h.o, h.r0, h.r1, below_drewN h.b n, h.sz⟩
theorem RM.set (h : RM w wc A O al be vs) (hA : A < w.heap.size) (hO : O < w.heap.size) (k v : Nat) : RM w (wc.setCell ⟨w.heap.size + 1, k, none⟩ (.float .f64 v)) A O al be (vs.set k v) :=
  ⟨h.a.other (by show A ≠ w.heap.size + 1; omega) _, h.o.other (by show O ≠ w.heap.size + 1; omega) _, h.r0.other (by show w.heap.size ≠ w.heap.size + 1; omega) _, h.r1.set k v, h.b.setCell (by show w.heap.size ≤ w.heap.size + 1; omega) _, by rw [size_setCell]; exact h.sz⟩
theorem RM.below {w' : World} (h : RM w wc A O al be vs) (hb : Below wc.heap.size wc w') : RM w w' A O al be vs :=
  ⟨h.a.below hb h.a.lt, h.o.below hb h.o.lt, h.r0.below hb h.r0.lt, h.r1.below hb h.r1.lt, h.b.trans (hb.mono (by have := h.sz; omega)), by have := hb.size; have := h.sz; omega⟩
end
end Go.Proofs.Qxb6605993a
