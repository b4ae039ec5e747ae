import Derived.Test.Qxb6614648aW3
namespace Go.Proofs.Qxb6614648a
open Go.RowKit
set_option linter.unusedVariables false

theorem one_run (c : UInt8) (w : World) :
    (convert 29 9 (.slice (some ⟨w.heap.size, 0, none⟩) 1 1)).run Try.prog (w.alloc (.cells #[.int .u8 (c.toNat : Int)] 5)) = .ok (.string ⟨#[c]⟩) (w.alloc (.cells #[.int .u8 (c.toNat : Int)] 5)) := by
  rw [run_convert_bytes_string _ 29 9 5 _ _ _ Try.underlying29 Try.underlying5 Try.underlying9]
  have hl := run_loadCells_list (P := Try.prog) (w.alloc (.cells #[.int .u8 (c.toNat : Int)] 5)) ⟨w.heap.size, 0, none⟩ [.int .u8 (c.toNat : Int)] (cell_one_new _ _ _)
  rw [run_bytesToString _ ⟨w.heap.size, 0, none⟩ 1 1 [(c.toNat : Int)] hl]
  simp [ByteArray.push, ByteArray.empty, ByteArray.emptyWithCapacity]
  rfl

theorem one_size (c : UInt8) : (⟨#[c]⟩ : ByteArray).size = 1 := rfl

set_option maxRecDepth 100000 in
set_option maxHeartbeats 1600000 in
theorem lawB (a b d : ByteArray) (c : UInt8) (w : World) (h0 : a.size ≤ maxLen) (h1 : b.size ≤ maxLen) (h2 : d.size ≤ maxLen) :
    Calls Try.prog 4 #[.string a, .string b, .string d, .int .u8 (c.toNat : Int)] w fun e w' => e = .returned (.bool true) ∧ Below w.heap.size w w' := by
  have HB := hide (bytesB_any a b d (c.toNat : Int) w h0 h1 h2)
  unfold maxLen at h0 h1 h2
  go_enter Try.func4, Try.ntmps4
  go_wp2_with fail
  refine HB.out.mono ?_
  rintro e w' ⟨⟨b0, rfl⟩, rfl⟩
  clear HB
  cases b0 with
  | false =>
    go_wp2_with fail
    go_ret
    exact ⟨rfl, Below.refl _ _⟩
  | true =>
  by_cases k0 : ¬ a.size ≤ 1048576
  · go_wp2_with fail
    go_ret
    exact ⟨rfl, Below.refl _ _⟩
  by_cases k1 : ¬ b.size ≤ 1048576
  · go_wp2_with fail
    go_ret
    exact ⟨rfl, Below.refl _ _⟩
  by_cases k2 : ¬ d.size ≤ 1048576
  · go_wp2_with fail
    go_ret
    exact ⟨rfl, Below.refl _ _⟩
  by_cases k3 : ¬ a.size + b.size + d.size ≤ 1048576
  · go_wp2_with fail
    go_ret
    exact ⟨rfl, Below.refl _ _⟩
  obtain ⟨x, hx⟩ : ∃ x, asc a.data.toList = x := ⟨_, rfl⟩
  obtain ⟨y, hy⟩ : ∃ y, decide ((c.toNat : Int) < 128) = y := ⟨_, rfl⟩
  have hxy : asc (a ++ ⟨#[c]⟩).data.toList = (x && y) := by
    rw [data_append, asc_append, hx, ← hy]
    congr 1
    simp [asc]
    omega
  obtain ⟨ac, hac⟩ : ∃ ac : ByteArray, a ++ ⟨#[c]⟩ = ac := ⟨_, rfl⟩
  have hadd : ∀ w, (Op.stringOp .add a ⟨#[c]⟩).run Try.prog w = .ok (.string ac) w := fun w => by
    rw [← hac]; exact run_string_add_sum w a ⟨#[c]⟩ (by rw [one_size]; omega)
  have hsz : ac.size = a.size + 1 := by rw [← hac, ByteArray.size_append, one_size]
  rw [hac] at hxy
  clear hac
  have hone := one_run c
  have HX := hide hx
  have HXY := hide hxy
  have HK := hide (show a.size ≤ 1048576 ∧ b.size ≤ 1048576 ∧ a.size + b.size ≤ 1048576 by omega)
  have HSA := hide hsz
  clear hsz
  have HST := hide (asc_strip a.data.toList)
  have HSL := hide (strip_len a.data.toList)
  clear hx hxy k0 k1 k2
  go_wp2_with fail
  refine (new_any a b _).mono ?_
  rintro e w1 ⟨rfl, g1⟩
  go_wp2_with fail
  refine (ask_any a b x HX.out (by unfold maxLen; omega) _).mono ?_
  rintro e w2 ⟨rfl, g2⟩
  have G2 := hide (g1.trans (g2.mono g1.size))
  clear g1 g2
  go_wp2_with fail
  refine (new_any a d _).mono ?_
  rintro e w3 ⟨rfl, g3⟩
  go_wp2_with fail
  refine (ask_any a d x HX.out (by unfold maxLen; omega) _).mono ?_
  rintro e w4 ⟨rfl, g4⟩
  have G3 := hide (G2.out.trans (g3.mono G2.out.size))
  have G4 := hide (G3.out.trans (g4.mono G3.out.size))
  clear g3 g4 G2 G3
  go_wp2_with fail
  refine (strip_any a _ HK.out.1).mono ?_
  rintro e w5 ⟨rfl, g5⟩
  go_wp2_with fail
  refine (new_any _ d _).mono ?_
  rintro e w6 ⟨rfl, g6⟩
  go_wp2_with fail
  refine (ask_any ⟨(strip a.data.toList).toArray⟩ d true HST.out (by
    have h := HSL.out
    have h' : (⟨(strip a.data.toList).toArray⟩ : ByteArray).size = (strip a.data.toList).length := by simp [ByteArray.size]
    have h'' : a.data.toList.length = a.size := by simp
    rw [h']; unfold maxLen; omega) _).mono ?_
  rintro e w7 ⟨rfl, g7⟩
  have G5 := hide (G4.out.trans (g5.mono G4.out.size))
  have G6 := hide (G5.out.trans (g6.mono G5.out.size))
  have G7 := hide (G6.out.trans (g7.mono G6.out.size))
  clear g5 g6 g7 G4 G5 G6
  go_wp2_with fail
  refine (new_any ac b _).mono ?_
  rintro e w8 ⟨rfl, g8⟩
  go_wp2_with fail
  refine (ask_any ac b (x && y) HXY.out (by have := HSA.out; have := HK.out; unfold maxLen; omega) _).mono ?_
  rintro e w9 ⟨rfl, g9⟩
  have G8 := hide ((G7.out.alloc G7.out.size (.cells #[.int .u8 (c.toNat : Int)] 5)).trans (g8.mono (Nat.le_trans G7.out.size (by simp))))
  have G9 := hide (G8.out.trans (g9.mono G8.out.size))
  clear g8 g9 G7 G8
  cases x <;> cases y
  all_goals
    go_wp2_with fail
    go_ret
    exact ⟨rfl, G9.out⟩
end Go.Proofs.Qxb6614648a
