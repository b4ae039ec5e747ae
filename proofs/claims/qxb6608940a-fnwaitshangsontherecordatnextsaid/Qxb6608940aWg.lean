import Derived.Test.Qxb6608940aWf
namespace Go.Proofs.Qxb6608940a
open Go.RowKit
set_option linter.unusedVariables false

set_option maxRecDepth 100000 in
set_option maxHeartbeats 8000000 in
theorem law2 (w : World) (nx ed lm : Int) (st en d : Nat → Int) (on gv : Nat → Bool) (a0 a1 a2 a3 a4 : Option Addr) (l0 l1 l2 l3 l4 c0 c1 c2 c3 c4 : Nat)
    (h0 : Sl w a0 l0 fun i => .int .u64 (st i)) (h1 : Sl w a1 l1 fun i => .int .u64 (en i)) (h2 : Sl w a2 l2 fun i => .bool (on i)) (h3 : Sl w a3 l3 fun i => .int .i64 (d i)) (h4 : Sl w a4 l4 fun i => .bool (gv i))
    (hu0 : ∀ i, i < l0 → 0 ≤ st i) (hu1 : ∀ i, i < l1 → en i ≤ 18446744073709551615) (hd : ∀ i, i < l3 → -9223372036854775808 ≤ d i ∧ d i ≤ 9223372036854775807)
    (y0 : l0 ≤ c0) (y1 : l1 ≤ c1) (y2 : l2 ≤ c2) (y3 : l3 ≤ c3) (y4 : l4 ≤ c4) (m0 : l0 ≤ maxLen) (m1 : l1 ≤ maxLen) (m2 : l2 ≤ maxLen) (m3 : l3 ≤ maxLen) (m4 : l4 ≤ maxLen) :
    Calls Try.prog 7 #[.slice a0 l0 c0, .slice a1 l1 c1, .slice a2 l2 c2, .slice a3 l3 c3, .slice a4 l4 c4, .int .u64 nx, .int .u64 ed, .int .u64 lm] w fun e w' => e = .returned (.bool true) ∧ Below w.heap.size w w' := by
  have H0 := hide h0
  have H1 := hide h1
  have H2 := hide h2
  have H3 := hide h3
  have H4 := hide h4
  have HU0 := hide hu0
  have HU1 := hide hu1
  have HD := hide hd
  clear h0 h1 h2 h3 h4 hu0 hu1 hd
  have HB := hide (bytes2_any w a0 a1 a2 a3 a4 l0 l1 l2 l3 l4 c0 c1 c2 c3 c4 nx ed lm m0 m1 m2 m3 m4)
  unfold maxLen at m0 m1 m2 m3 m4
  go_enter Try.func7, Try.ntmps7
  go_wp2_with fail
  refine HB.out.mono ?_
  rintro e w' ⟨⟨b, rfl⟩, rfl⟩
  cases b with
  | false =>
    go_wp2_with fail
    go_ret
    exact ⟨rfl, Below.refl _ _⟩
  | true =>
  by_cases k0 : ¬ l0 ≤ 32768
  · go_wp2_with fail
    go_ret
    exact ⟨rfl, Below.refl _ _⟩
  by_cases k1 : ¬ l1 ≤ 32768
  · go_wp2_with fail
    go_ret
    exact ⟨rfl, Below.refl _ _⟩
  by_cases k2 : ¬ l2 ≤ 32768
  · go_wp2_with fail
    go_ret
    exact ⟨rfl, Below.refl _ _⟩
  by_cases k3 : ¬ l3 ≤ 32768
  · go_wp2_with fail
    go_ret
    exact ⟨rfl, Below.refl _ _⟩
  by_cases k4 : ¬ l4 ≤ 32768
  · go_wp2_with fail
    go_ret
    exact ⟨rfl, Below.refl _ _⟩
  have HO := hide (ok_any w' l0 l1 l2 l3 l4 nx ed st en a0 a1 a2 a3 a4 c0 c1 c2 c3 c4 H0.out H1.out (by omega))
  go_wp2_with fail
  refine HO.out.mono ?_
  rintro e w1 ⟨⟨b2, rfl, hb2⟩, hn⟩
  have hB1 : Below w'.heap.size w' w1 := by
    obtain ⟨n, rfl⟩ := hn
    exact below_drewN n
  have HB2 := hide hb2
  clear hb2
  go_upto_if 67 with fail
  go_cut [] (fun wx => b2 = true ∧ w1 = wx)
  case first =>
    cases b2 with
    | false =>
      go_wp2_with fail
      go_ret
      exact ⟨rfl, hB1⟩
    | true =>
      go_wp2_with fail
      go_meet
      exact ⟨by first | rfl | trivial, rfl⟩
  case rest =>
  obtain ⟨rfl, hw⟩ := hcut
  subst hw
  refine ‹∀ (a : Act) (w : World), Code.wp Try.prog _ _ a w → _› _ _ ?_
  obtain ⟨rfl, rfl, rfl, rfl, OK⟩ := HB2.out rfl
  exact u1a w' w1 nx ed lm st en d on gv a0 a1 a2 a3 a4 l4 c0 c1 c2 c3 c4 ⟨H0.out.below hB1, H1.out.below hB1, H2.out.below hB1, H3.out.below hB1, H4.out.below hB1⟩
    hB1 OK (by omega) HU0.out HU1.out HD.out y0 y1 y2 y3 y4 _ _ _ _ _ _ _ _ _ _ _ _ _ _ _ _ _ _ _ _ _ _ _ _ _ _ _ _ _ _ _ _ _ _ _ _ _ _ _ _ _ _ _ _ _ _ _ _ _ _ _ _ _ _ _ _ _ _ _ _ _ _ _ _ _ _ _ _ _ _ _ _ _ _ _ _ _ _ _ _ _ _ _ _ _ _ _ _ _ _ _ _ _ _ _ _ _ _ _ _ _ _ _ _ _ _ _ _ _ _ _ _ _ _ _ _ _ _ _ _ _ _ _ _ _ _ _ _ _ _ _ _ _ _ _ _ _ _ _ _ _ _ _ _ _ _ _ _ _ _ _ _ _ _ _ _ _ _ _ _ _ _ _ _ _ _ _ _ _ _ _ _ _ _ _ _ _ _ _ _ _ _ _ _ _ _ _ _ _ _ _ _ _ _ _ _ _ _ _ _ _ _ _ _ _ _ _ _ _ _ _ _ _ _ _ _
end Go.Proofs.Qxb6608940a
