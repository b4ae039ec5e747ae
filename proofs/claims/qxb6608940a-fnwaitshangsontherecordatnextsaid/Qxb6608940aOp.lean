import Derived.Test.Qxb6608940aW5
import Derived.ProofKit
import Derived.Deep.Grids
import Derived.ChangeSlices
namespace Go.Proofs.Qxb6608940a
open Go.ChangeShapes Go.WideShapes Go.ChangeAt Go.RowKit

theorem open_row_int {H : Type} {enc : TypeId × Value → H} {W : World} {t e : TypeId} {k : IntKind} {a : Option Addr} {len cap : Nat} {dd : DataW H} {ps : List MemPlace} {held : Bool} (ht : Try.prog.underlying t = some (.slice e)) (he : Try.prog.underlying e = some (.int k)) (hc : Try.prog.cellsOf e = 1)
    (h : DataW.Trod enc Try.prog W 0 (fun _ => true) held t (.slice a len cap) dd ps) :
    ∃ f : Nat → Int, Sl W a len (fun i => .int k (f i)) ∧ len ≤ maxLen ∧ ∀ i, i < len → (Lit.int k (f i)).wf = true := by
  obtain ⟨fuel, hf⟩ := h
  rcases open_ints ht he hc hf with ⟨hcs, _⟩ | ⟨x, l, c, zs, hcs, _, hl, hm, hz, _, hcell, hwz⟩
  · simp [Value.cells] at hcs
    obtain ⟨rfl, rfl, rfl⟩ := hcs
    exact ⟨fun _ => 0, fun i hi => absurd hi (Nat.not_lt_zero _), Nat.zero_le _, fun i hi => absurd hi (Nat.not_lt_zero _)⟩
  · simp [Value.cells] at hcs
    obtain ⟨rfl, rfl, rfl⟩ := hcs
    simp only [if_true] at hz
    refine ⟨fun i => zs.getD i 0, fun i hi => ?_, by omega, fun i hi => ?_⟩
    · have hc0 := hcell i (by omega)
      have hs := World.cell?_spot (hcell 0 (by omega))
      obtain ⟨b, off, spot⟩ := x
      have hspot : spot = none := by simpa [Addr.add] using hs
      subst hspot
      refine ⟨b, off, rfl, ?_⟩
      have e : (⟨b, off, none⟩ : Addr).add i = ⟨b, off + i, none⟩ := by unfold Addr.add; split <;> simp_all
      rw [e] at hc0; exact hc0
    · refine hwz _ ?_
      have hi' : i < zs.length := by omega
      show zs.getD i 0 ∈ zs
      rw [show zs.getD i 0 = zs[i] by simp [List.getD, hi']]
      exact List.getElem_mem _
theorem open_row_bool {H : Type} {enc : TypeId × Value → H} {W : World} {t e : TypeId} {a : Option Addr} {len cap : Nat} {dd : DataW H} {ps : List MemPlace} {held : Bool} (ht : Try.prog.underlying t = some (.slice e)) (he : Try.prog.underlying e = some .bool) (hc : Try.prog.cellsOf e = 1)
    (h : DataW.Trod enc Try.prog W 0 (fun _ => true) held t (.slice a len cap) dd ps) :
    ∃ f : Nat → Bool, Sl W a len (fun i => .bool (f i)) ∧ len ≤ maxLen := by
  obtain ⟨fuel, hf⟩ := h
  rcases Go.Deep.open_bools ht he hc hf with ⟨hcs, _⟩ | ⟨x, l, c, f, hcs, _, hl, hm, _, hcell⟩
  · simp [Value.cells] at hcs
    obtain ⟨rfl, rfl, rfl⟩ := hcs
    exact ⟨fun _ => false, fun i hi => absurd hi (Nat.not_lt_zero _), Nat.zero_le _⟩
  · simp [Value.cells] at hcs
    obtain ⟨rfl, rfl, rfl⟩ := hcs
    refine ⟨f, fun i hi => ?_, by omega⟩
    have hc0 := hcell i (by omega)
    have hs := World.cell?_spot (hcell 0 (by omega))
    obtain ⟨b, off, spot⟩ := x
    have hspot : spot = none := by simpa [Addr.add] using hs
    subst hspot
    refine ⟨b, off, rfl, ?_⟩
    have e : (⟨b, off, none⟩ : Addr).add i = ⟨b, off + i, none⟩ := by unfold Addr.add; split <;> simp_all
    rw [e] at hc0; exact hc0
theorem u64_range {x : Int} (h : (Lit.int .u64 x).wf = true) : 0 ≤ x ∧ x ≤ 18446744073709551615 := by
  simp [Lit.wf, IntKind.min, IntKind.max, IntKind.signed, IntKind.bits] at h; omega
theorem i64_range {x : Int} (h : (Lit.int .i64 x).wf = true) : -9223372036854775808 ≤ x ∧ x ≤ 9223372036854775807 := by
  simp [Lit.wf, IntKind.min, IntKind.max, IntKind.signed, IntKind.bits] at h; omega
end Go.Proofs.Qxb6608940a
