import Derived.Test.Qxb6614648aW2
namespace Go.Proofs.Qxb6614648a
open Go.RowKit
set_option linter.unusedVariables false

theorem data_append (a b : ByteArray) : (a ++ b).data.toList = a.data.toList ++ b.data.toList := by
  simp
theorem strip_test (a : ByteArray) : (strip a.data.toList == a.toList) = asc a.data.toList := by
  rw [ByteArray.toList_eq]
  exact strip_eq _

/-- The contract of a mailbox made and asked. -/
theorem ask_any (a d : ByteArray) (x : Bool) (hx : asc a.data.toList = x) (hs : a.size ≤ maxLen) (w : World) :
    Calls Try.prog 6 #[.agg #[.string a, .string d]] w fun e w' => e = .returned (.bool x) ∧ Below w.heap.size w w' := by
  refine (mail_any a d w hs).mono ?_
  rintro e w' ⟨rfl, rfl⟩
  exact ⟨bool_of hx, ((Below.refl _ _).alloc (Nat.le_refl _) _).alloc (by simp) _⟩
theorem new_any (a d : ByteArray) (w : World) :
    Calls Try.prog 7 #[.string a, .string d] w fun e w' => e = .returned (.agg #[.string a, .string d]) ∧ Below w.heap.size w w' := by
  refine (newm_any a d w).mono ?_
  rintro e w' ⟨rfl, rfl⟩
  exact ⟨rfl, (Below.refl _ _).alloc (Nat.le_refl _) _⟩

set_option maxRecDepth 100000 in
set_option maxHeartbeats 1600000 in
theorem lawA (a b d : ByteArray) (w : World) (h0 : a.size ≤ maxLen) (h1 : b.size ≤ maxLen) (h2 : d.size ≤ maxLen) :
    Calls Try.prog 3 #[.string a, .string b, .string d] w fun e w' => e = .returned (.bool true) ∧ Below w.heap.size w w' := by
  have HB := hide (bytesA_any a b d w h0 h1 h2)
  unfold maxLen at h0 h1 h2
  go_enter Try.func3, Try.ntmps3
  go_wp2_with fail
  refine HB.out.mono ?_
  rintro e w' ⟨⟨b0, rfl⟩, rfl⟩
  clear HB
  cases b0 with
  | false =>
    go_wp2_with fail
    go_ret
    exact ⟨rfl, Below.refl _ _⟩
  | true =>
  by_cases k0 : ¬ a.size ≤ 1048576
  · go_wp2_with fail
    go_ret
    exact ⟨rfl, Below.refl _ _⟩
  by_cases k1 : ¬ b.size ≤ 1048576
  · go_wp2_with fail
    go_ret
    exact ⟨rfl, Below.refl _ _⟩
  by_cases k2 : ¬ d.size ≤ 1048576
  · go_wp2_with fail
    go_ret
    exact ⟨rfl, Below.refl _ _⟩
  by_cases k3 : ¬ a.size + b.size + d.size ≤ 1048576
  · go_wp2_with fail
    go_ret
    exact ⟨rfl, Below.refl _ _⟩
  obtain ⟨x, hx⟩ : ∃ x, asc a.data.toList = x := ⟨_, rfl⟩
  obtain ⟨y, hy⟩ : ∃ y, asc b.data.toList = y := ⟨_, rfl⟩
  have hxy : asc (a ++ b).data.toList = (x && y) := by rw [data_append, asc_append, hx, hy]
  have hadd : ∀ w, (Op.stringOp .add a b).run Try.prog w = .ok (.string (a ++ b)) w := fun w => run_string_add_sum w a b (by omega)
  have ta := strip_test a
  have tb := strip_test b
  rw [hx] at ta
  rw [hy] at tb
  have HX := hide hx
  have HY := hide hy
  have HXY := hide hxy
  have HK := hide (show a.size ≤ 1048576 ∧ b.size ≤ 1048576 ∧ a.size + b.size ≤ 1048576 by omega)
  have sab : (a ++ b).size = a.size + b.size := ByteArray.size_append
  have HSAB := hide sab
  clear hx hy hxy sab k0 k1 k2
  go_wp2_with fail
  refine (new_any a d _).mono ?_
  rintro e w1 ⟨rfl, g1⟩
  go_wp2_with fail
  refine (ask_any a d x HX.out (by unfold maxLen; omega) _).mono ?_
  rintro e w2 ⟨rfl, g2⟩
  have G2 := hide (g1.trans (g2.mono g1.size))
  clear g1 g2
  go_wp2_with fail
  refine (new_any b d _).mono ?_
  rintro e w3 ⟨rfl, g3⟩
  go_wp2_with fail
  refine (ask_any b d y HY.out (by unfold maxLen; omega) _).mono ?_
  rintro e w4 ⟨rfl, g4⟩
  have G3 := hide (G2.out.trans (g3.mono G2.out.size))
  have G4 := hide (G3.out.trans (g4.mono G3.out.size))
  clear g3 g4 G2 G3
  go_wp2_with fail
  refine (new_any (a ++ b) d _).mono ?_
  rintro e w5 ⟨rfl, g5⟩
  go_wp2_with fail
  refine (ask_any (a ++ b) d (x && y) HXY.out (by have := HSAB.out; have := HK.out; unfold maxLen; omega) _).mono ?_
  rintro e w6 ⟨rfl, g6⟩
  have G5 := hide (G4.out.trans (g5.mono G4.out.size))
  have G6 := hide (G5.out.trans (g6.mono G5.out.size))
  clear g5 g6 G4 G5
  cases x <;> cases y
  all_goals
    go_wp2_with fail
    refine (strip_any a _ HK.out.1).mono ?_
    rintro e w7 ⟨rfl, g7⟩
    have G7 := hide (G6.out.trans (g7.mono G6.out.size))
    clear g7
    go_wp2_with fail
    refine (strip_any b _ HK.out.2.1).mono ?_
    rintro e w8 ⟨rfl, g8⟩
    have G8 := hide (G7.out.trans (g8.mono G7.out.size))
    clear g8
    go_wp2_with fail
    go_ret
    exact ⟨rfl, G8.out⟩
end Go.Proofs.Qxb6614648a
