/- Slices of floats that came in, as rows of words. -/
import Derived.Test.Qxb6605993aLeaf
import Derived.ChangeSlices
import Derived.OpenShut
import Derived.Laws.Cover2
namespace Go.Proofs.Qxb6605993a
open Go.ChangeShapes Go.WideShapes Go.ChangeAt Go.RowKit

section
variable {H : Type} {enc : TypeId × Value → H} {P : Program} {w : World} {base : Nat} {spare : Nat → Bool} {held : Bool}

theorem trod_float {t : TypeId} {fuel : Nat} {k : FloatKind} {cs : List Value} {x : DataW H × List MemPlace} (ht : P.underlying t = some (.float k)) (h : DataW.trod enc P w base spare held fuel t cs = some x) :
    ∃ n, cs = [.float k n] ∧ (Lit.float k n).wf = true := by
  cases fuel with
  | zero => simp [DataW.trod] at h
  | succ n =>
    unfold DataW.trod at h
    rw [ht] at h
    split at h <;> simp_all

def wordAt (w : World) (a : Addr) : Nat := match w.cell? a with | some (.float _ n) => n | _ => 0

theorem open_floats {t e : TypeId} {a : Option Addr} {len cap : Nat} {d : DataW H} {ps : List MemPlace} (ht : P.underlying t = some (.slice e)) (he : P.underlying e = some (.float .f64)) (hc : P.cellsOf e = 1)
    (h : DataW.Trod enc P w base spare held t (.slice a len cap) d ps) : ∃ zs, IsRowF w a len cap zs ∧ len ≤ maxLen := by
  obtain ⟨fuel, hf⟩ := h
  rcases DataW.trod_slice ht hf with ⟨h0, _⟩ | ⟨x, l, c, elems, rest, n, _, h0, _, hb, hl, hm, hlen, hel, hsp, hns⟩
  · simp [Value.cells] at h0
    obtain ⟨rfl, rfl, rfl⟩ := h0
    exact ⟨[], Or.inl ⟨rfl, rfl, rfl, rfl⟩, by unfold maxLen; omega⟩
  · simp [Value.cells] at h0
    obtain ⟨rfl, rfl, rfl⟩ := h0
    have each : ∀ i, i < len → ∃ m, w.cell? (x.add i) = some (.float .f64 m) ∧ (Lit.float .f64 m).wf = true := by
      intro i hi
      have h1 := hel i hi
      have h2 : i < elems.length := by omega
      rw [hc, Nat.mul_one, List.getElem?_eq_getElem h2, Option.bind_eq_some_iff] at h1
      obtain ⟨cs', hcs, hy⟩ := h1
      obtain ⟨m, rfl, hw⟩ := trod_float he hy
      exact ⟨m, cell_of_cells?_one hcs, hw⟩
    by_cases hz : len = 0
    · subst hz
      exact ⟨[], Or.inr (Or.inl ⟨x, rfl, rfl, rfl⟩), by omega⟩
    · obtain ⟨m0, c0, _⟩ := each 0 (by omega)
      obtain ⟨b, off, spot⟩ := x
      have hspot : spot = none := by simpa [Addr.add] using World.cell?_spot c0
      subst hspot
      have hadd : ∀ i, (Addr.add ⟨b, off, none⟩ i) = ⟨b, off + i, none⟩ := fun i => by simp [Addr.add]
      refine ⟨(List.range len).map fun i => wordAt w ⟨b, off + i, none⟩, Or.inr (Or.inr ⟨b, off, rfl, by simp, ?_, ?_, ?_⟩), by omega⟩
      · intro i hi
        obtain ⟨m, hcell, _⟩ := each i hi
        rw [hadd] at hcell
        have : ((List.range len).map fun i => wordAt w ⟨b, off + i, none⟩).getD i 0 = m := by
          simp [List.getD_eq_getElem?_getD, hi, wordAt, hcell]
        rw [this, hcell]
      · rw [hadd] at c0
        exact World.block_lt_of_cell? _ _ c0
      · intro y hy
        simp only [List.mem_map, List.mem_range] at hy
        obtain ⟨i, hi, rfl⟩ := hy
        obtain ⟨m, hcell, hw⟩ := each i hi
        rw [hadd] at hcell
        have e : wordAt w ⟨b, off + i, none⟩ = m := by unfold wordAt; rw [hcell]
        rw [e]
        simpa [Lit.wf] using hw
end
end Go.Proofs.Qxb6605993a
