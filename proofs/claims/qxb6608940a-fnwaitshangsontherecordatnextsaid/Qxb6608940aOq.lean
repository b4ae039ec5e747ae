import Derived.Test.Qxb6608940aOp
import Derived.Deep.Slices
namespace Go.Proofs.Qxb6608940a
open Go.ChangeShapes Go.WideShapes Go.ChangeAt Go.RowKit

theorem open_cap {H : Type} {enc : TypeId × Value → H} {W : World} {t e : TypeId} {a : Option Addr} {len cap : Nat} {dd : DataW H} {ps : List MemPlace} {held : Bool} (ht : Try.prog.underlying t = some (.slice e))
    (h : DataW.Trod enc Try.prog W 0 (fun _ => true) held t (.slice a len cap) dd ps) : len ≤ cap := by
  obtain ⟨fuel, hf⟩ := h
  rcases Go.Deep.open_slice ht hf with ⟨hcs, _⟩ | ⟨x, l, c, m, n, D, Pl, hcs, _, hl, _⟩
  · simp [Value.cells] at hcs
    obtain ⟨rfl, rfl, rfl⟩ := hcs
    exact Nat.le_refl _
  · simp [Value.cells] at hcs
    obtain ⟨rfl, rfl, rfl⟩ := hcs
    exact hl
end Go.Proofs.Qxb6608940a
