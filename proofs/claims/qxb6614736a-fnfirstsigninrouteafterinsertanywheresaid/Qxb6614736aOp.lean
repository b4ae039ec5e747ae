import Derived.Test.Qxb6614736aW3
import Derived.ProofKit
import Derived.Deep.Grids
import Derived.Deep.Slices
import Derived.ChangeSlices
namespace Go.Proofs.Qxb6614736a
open Go.ChangeShapes Go.WideShapes Go.ChangeAt Go.RowKit

/-- What a slice of bools that the row hands over says of memory. -/
theorem open_row_bool {H : Type} {enc : TypeId × Value → H} {W : World} {t e : TypeId} {a : Option Addr} {len cap : Nat} {dd : DataW H} {ps : List MemPlace} {held : Bool} (ht : Try.prog.underlying t = some (.slice e)) (he : Try.prog.underlying e = some .bool) (hc : Try.prog.cellsOf e = 1)
    (h : DataW.Trod enc Try.prog W 0 (fun _ => true) held t (.slice a len cap) dd ps) :
    ∃ f : Nat → Bool, Sl W a len f ∧ len ≤ maxLen := by
  obtain ⟨fuel, hf⟩ := h
  rcases Go.Deep.open_bools ht he hc hf with ⟨hcs, _⟩ | ⟨x, l, c, f, hcs, _, hl, hm, _, hcell⟩
  · simp [Value.cells] at hcs
    obtain ⟨rfl, rfl, rfl⟩ := hcs
    exact ⟨fun _ => false, fun i hi => absurd hi (Nat.not_lt_zero _), Nat.zero_le _⟩
  · simp [Value.cells] at hcs
    obtain ⟨rfl, rfl, rfl⟩ := hcs
    refine ⟨f, fun i hi => ?_, by omega⟩
    have hc0 := hcell i (by omega)
    have hs := World.cell?_spot (hcell 0 (by omega))
    obtain ⟨b, off, spot⟩ := x
    have hspot : spot = none := by simpa [Addr.add] using hs
    subst hspot
    refine ⟨b, off, rfl, ?_⟩
    have e : (⟨b, off, none⟩ : Addr).add i = ⟨b, off + i, none⟩ := by unfold Addr.add; split <;> simp_all
    rw [e] at hc0; exact hc0
theorem open_shape {H : Type} {enc : TypeId × Value → H} {W : World} {t e : TypeId} {a : Option Addr} {len cap : Nat} {dd : DataW H} {ps : List MemPlace} {held : Bool} (ht : Try.prog.underlying t = some (.slice e))
    (h : DataW.Trod enc Try.prog W 0 (fun _ => true) held t (.slice a len cap) dd ps) : Shape a len cap := by
  obtain ⟨fuel, hf⟩ := h
  rcases Go.Deep.open_slice ht hf with ⟨hcs, _⟩ | ⟨x, l, c, m, n, D, Pl, hcs, _, hl, _⟩
  · simp [Value.cells] at hcs
    obtain ⟨rfl, rfl, rfl⟩ := hcs
    exact ⟨Nat.le_refl _, fun _ => rfl⟩
  · simp [Value.cells] at hcs
    obtain ⟨rfl, rfl, rfl⟩ := hcs
    exact ⟨hl, fun h => by cases h⟩
end Go.Proofs.Qxb6614736a
