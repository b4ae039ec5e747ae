import Derived.Test.Qxb6608940aPl
import Derived.Deep.DeepCutAuto
import Derived.Deep.WholeRow
import Derived.Laws.IdiomCopy
import Derived.Laws.CopyRow
namespace Go.Proofs.Qxb6608940a
open Go.RowKit
set_option linter.unusedVariables false

/-- What a copy of a slice holds. -/
def cellsOf (m : Nat) (f : Nat → Value) : Array Value := ((List.range m).map f).toArray

theorem copy_run (W : World) (dT elem ty : TypeId) (hu : Try.prog.underlying dT = some (.slice elem)) (hs : (Try.prog.info? elem).map (·.size) = some 1) (z : Array Value) (a : Option Addr) (m c : Nat) (f : Nat → Value)
    (hS : Sl W a m f) (h1 : ∀ i, (f i).oneCell' = true) :
    (Builtin.copy_ #[dT, dT] ty #[.slice (some ⟨W.heap.size, 0, none⟩) m m, .slice a m c]).run Try.prog (W.alloc (.cells (madeCells z m) elem)) =
      .ok (.int .i64 (m : Int)) (W.alloc (.cells (cellsOf m f) elem)) := by
  by_cases h0 : m = 0
  · subst h0
    rw [run_copy_none (P := Try.prog) _ dT dT ty elem _ _ _ _ _ _ hu hs (by simp)]
    have : madeCells z 0 = cellsOf 0 f := by simp [madeCells, cellsOf]
    rw [this]; rfl
  · obtain ⟨b, o, rfl, _⟩ := hS 0 (by omega)
    have hl : ((List.range m).map f).length = m := by simp
    rw [run_copy_row (P := Try.prog) (W.alloc (.cells (madeCells z m) elem)) dT dT ty elem W.heap.size 0 m m ⟨b, o, none⟩ m c (madeCells z m) elem ((List.range m).map f) hu hs (heap_alloc_last W _) (by rw [hl]; simp)
      (fun j v hv => by
        have hj : j < m := by have := (List.getElem?_eq_some_iff.1 hv).1; rwa [hl] at this
        obtain ⟨b', o', e, hc⟩ := hS j hj
        cases e
        rw [Addr.add_mid]
        rw [List.getElem?_map, List.getElem?_range hj] at hv
        simp at hv; subst hv
        exact cell_new _ hc)
      (by rw [hl, size_madeCells]; omega)
      (fun v hv => by simp at hv; obtain ⟨i, _, rfl⟩ := hv; exact h1 i)]
    rw [World.setRow_alloc_new, hl]
    have : ((madeCells z m).toList.take 0 ++ (List.range m).map f ++ (madeCells z m).toList.drop (0 + m)).toArray = cellsOf m f := by
      have : (madeCells z m).toList.drop (0 + m) = [] := List.drop_eq_nil_of_le (by simp [size_madeCells])
      rw [this]; simp [cellsOf]
    rw [this]; rfl

theorem sl_copy (W : World) (elem : TypeId) (m : Nat) (f : Nat → Value) : Sl (W.alloc (.cells (cellsOf m f) elem)) (some ⟨W.heap.size, 0, none⟩) m f := fun i hi => by
  refine ⟨W.heap.size, 0, rfl, ?_⟩
  rw [World.cell?_alloc_at _ _ _ _ rfl]
  simp [cellsOf, hi]

theorem info29 : (Try.prog.info? 29).map (fun i => (i.zero, i.size, i.bytes)) = some (some (.int .u64 0), 1, 8) := by kernel_rfl
theorem info4 : (Try.prog.info? 4).map (fun i => (i.zero, i.size, i.bytes)) = some (some (.bool false), 1, 1) := by kernel_rfl
theorem info2 : (Try.prog.info? 2).map (fun i => (i.zero, i.size, i.bytes)) = some (some (.int .i64 0), 1, 8) := by kernel_rfl
theorem size29 : (Try.prog.info? 29).map (·.size) = some 1 := by kernel_rfl
theorem size4 : (Try.prog.info? 4).map (·.size) = some 1 := by kernel_rfl
theorem size2 : (Try.prog.info? 2).map (·.size) = some 1 := by kernel_rfl
theorem make36 (m : Nat) (hm : m ≤ 32768) (w : World) : (Instr.makeSlice 36 (.int .i64 (m : Int)) (.int .i64 (m : Int))).run Try.prog w =
    .ok (.slice (some ⟨w.heap.size, 0, none⟩) m m) (w.alloc (.cells (madeCells #[.int .u64 0] m) 29)) := by
  obtain ⟨i, hi, hz, hs, hb⟩ := info_parts info29
  have := run_make (P := Try.prog) w 36 29 i _ Try.underlying36 hi hz .i64 .i64 m m (by omega) (Int.le_refl _) (by rw [hb]; omega) (by omega)
  rw [this, hs, Nat.mul_one]
  rfl
theorem make37 (m : Nat) (hm : m ≤ 32768) (w : World) : (Instr.makeSlice 37 (.int .i64 (m : Int)) (.int .i64 (m : Int))).run Try.prog w =
    .ok (.slice (some ⟨w.heap.size, 0, none⟩) m m) (w.alloc (.cells (madeCells #[.bool false] m) 4)) := by
  obtain ⟨i, hi, hz, hs, hb⟩ := info_parts info4
  have := run_make (P := Try.prog) w 37 4 i _ Try.underlying37 hi hz .i64 .i64 m m (by omega) (Int.le_refl _) (by rw [hb]; omega) (by omega)
  rw [this, hs, Nat.mul_one]
  rfl
theorem make28 (m : Nat) (hm : m ≤ 32768) (w : World) : (Instr.makeSlice 28 (.int .i64 (m : Int)) (.int .i64 (m : Int))).run Try.prog w =
    .ok (.slice (some ⟨w.heap.size, 0, none⟩) m m) (w.alloc (.cells (madeCells #[.int .i64 0] m) 2)) := by
  obtain ⟨i, hi, hz, hs, hb⟩ := info_parts info2
  have := run_make (P := Try.prog) w 28 2 i _ Try.underlying28 hi hz .i64 .i64 m m (by omega) (Int.le_refl _) (by rw [hb]; omega) (by omega)
  rw [this, hs, Nat.mul_one]
  rfl

/-- The five slices, all of m elements. -/
structure Five (w : World) (a0 a1 a2 a3 a4 : Option Addr) (m : Nat) (st en d : Nat → Int) (on gv : Nat → Bool) : Prop where
  h0 : Sl w a0 m fun i => .int .u64 (st i)
  h1 : Sl w a1 m fun i => .int .u64 (en i)
  h2 : Sl w a2 m fun i => .bool (on i)
  h3 : Sl w a3 m fun i => .int .i64 (d i)
  h4 : Sl w a4 m fun i => .bool (gv i)

theorem Five.below {w w' : World} {a0 a1 a2 a3 a4 : Option Addr} {m : Nat} {st en d : Nat → Int} {on gv : Nat → Bool} (F : Five w a0 a1 a2 a3 a4 m st en d on gv) (hb : Below w.heap.size w w') : Five w' a0 a1 a2 a3 a4 m st en d on gv :=
  ⟨F.h0.below hb, F.h1.below hb, F.h2.below hb, F.h3.below hb, F.h4.below hb⟩
end Go.Proofs.Qxb6608940a
