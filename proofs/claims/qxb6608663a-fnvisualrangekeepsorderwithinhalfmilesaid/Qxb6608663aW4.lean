import Derived.Test.Qxb6608663aW3
namespace Go.Proofs.Qxb6608663a
open Go.RowKit

set_option maxRecDepth 100000 in
theorem within_cap (x : Nat) (h : (FloatKind.f64.format.order x 4746794007242211328 == some .gt || FloatKind.f64.format.order x 4746794007242211328 == some .eq) = true) (w : World) :
    Calls Try.prog 6 #[.float .f64 x, .int .i64 2147483647] w fun e w' => e = .returned (.bool true) ∧ w' = w := by
  go_enter Try.func6, Try.ntmps6
  go_wp2
  go_ret
  exact ⟨rfl, rfl⟩
set_option maxRecDepth 100000 in
theorem within_low (x r t1 t2 : Nat) (h : (FloatKind.f64.format.order x 4746794007242211328 == some .gt || FloatKind.f64.format.order x 4746794007242211328 == some .eq) = false)
    (hb : r ≤ 2147483647)
    (f1 : FloatKind.f64.format.sub (floatOfInt .f64 (r : Int)) 4602678819172646912 = some t1)
    (f2 : FloatKind.f64.format.add (floatOfInt .f64 (r : Int)) 4602678819172646912 = some t2)
    (g1 : (FloatKind.f64.format.order t1 x == some .lt || FloatKind.f64.format.order t1 x == some .eq) = true)
    (g2 : (FloatKind.f64.format.order x t2 == some .lt || FloatKind.f64.format.order x t2 == some .eq) = true) (w : World) :
    Calls Try.prog 6 #[.float .f64 x, .int .i64 (r : Int)] w fun e w' => e = .returned (.bool true) ∧ w' = w := by
  have a1 : ∀ w, (binOp .sub 22 (.float .f64 (floatOfInt .f64 (r : Int))) (.float .f64 4602678819172646912)).run Try.prog w = .ok (.float .f64 t1) w := fun w => run_float_arith w .sub 22 .f64 _ _ _ f1
  have a2 : ∀ w, (binOp .add 22 (.float .f64 (floatOfInt .f64 (r : Int))) (.float .f64 4602678819172646912)).run Try.prog w = .ok (.float .f64 t2) w := fun w => run_float_arith w .add 22 .f64 _ _ _ f2
  have h0 : (0 : Int) ≤ (r : Int) := by omega
  clear f1 f2
  go_enter Try.func6, Try.ntmps6
  go_wp2
  go_ret
  exact ⟨rfl, rfl⟩

theorem halves2 (y r : Nat) (hy : y < 9218868437227405312) (hr : Fl.R y = r) (hb : r ≤ 2147483647) :
    ∃ t1 t2, FloatKind.f64.format.sub (floatOfInt .f64 (r : Int)) 4602678819172646912 = some t1 ∧ FloatKind.f64.format.add (floatOfInt .f64 (r : Int)) 4602678819172646912 = some t2 ∧
      (FloatKind.f64.format.order t1 y == some .lt || FloatKind.f64.format.order t1 y == some .eq) = true ∧ t2 < 9218868437227405312 ∧ y < t2 := by
  have lo := Fl.R_lo y
  have hi := Fl.R_hi y
  rw [hr] at lo hi
  rcases Nat.eq_zero_or_pos r with h0 | h0
  · subst h0
    refine ⟨9223372036854775808 + 4602678819172646912, 4602678819172646912, by decide +kernel, by decide +kernel, ?_, by decide, ?_⟩
    · rw [order_neg _ (by decide) (by decide) y hy]; rfl
    · rw [← Fl.V_lt, Fl.V_half]; omega
  · obtain ⟨w, hw, h1, h2⟩ := Fl.ofNat_word r h0 (by omega)
    obtain ⟨t1, a1, a2, a3⟩ := Fl.minus_half w r h0 hw (by omega) h2
    obtain ⟨t2, b1, b2, b3⟩ := Fl.plus_half w r hw (by omega) h2
    have e1 : (2 * r - 1) * Fl.H = r * (2 * Fl.H) - Fl.H := by rw [Nat.sub_mul, Nat.one_mul, ← Nat.mul_assoc, Nat.mul_comm r 2]
    have e2 : (2 * r + 1) * Fl.H = r * (2 * Fl.H) + Fl.H := by rw [Nat.add_mul, Nat.one_mul, ← Nat.mul_assoc, Nat.mul_comm r 2]
    have e3 : (r + 1) * (2 * Fl.H) = r * (2 * Fl.H) + 2 * Fl.H := by rw [Nat.add_mul, Nat.one_mul]
    refine ⟨t1, t2, ?_, ?_, ?_, b1, ?_⟩
    · rw [ofInt_nat, h1]; exact a2
    · rw [ofInt_nat, h1]; exact b2
    · refine le_t (by omega) hy ?_
      rw [← Fl.V_le, a3, e1]; omega
    · rw [← Fl.V_lt, b3, e2]; omega

theorem within_nn (x : Nat) (h : x ≤ 9218868437227405312 ∨ x = 9223372036854775808) (w : World) :
    Calls Try.prog 6 #[.float .f64 x, .int .i64 (vr (nz x) : Int)] w fun e w' => e = .returned (.bool true) ∧ w' = w := by
  by_cases hC : nz x < 4746794007242211328
  · have hb : Fl.R (nz x) ≤ 2147483647 := Fl.R_le _ (by omega)
    obtain ⟨t1, t2, f1, f2, g1, ht2, g2⟩ := halves2 (nz x) _ (by omega) rfl hb
    rw [vr_low hC]
    refine within_low x (Fl.R (nz x)) t1 t2 ?_ hb f1 f2 ?_ ?_ w
    · rw [← order_nz_l]; exact ge_f (nz_le h) (by decide) hC
    · rw [← order_nz_r]; exact g1
    · rw [← order_nz_l]; exact le_t (nz_le h) ht2 (by omega)
  · rw [vr_cap (x := nz x) (by omega)]
    refine within_cap x ?_ w
    rw [← order_nz_l]; exact ge_t (nz_le h) (by decide) (by omega)

theorem vr_mono {x y : Nat} (h : x ≤ y) : vr x ≤ vr y := by
  unfold vr
  refine Fl.R_mono ?_
  unfold mn; split <;> split <;> omega

set_option maxRecDepth 100000 in
theorem law2_out1 (a b : Nat) (h : (FloatKind.f64.format.order a a != some .eq) = true) (w : World) :
    Calls Try.prog 4 #[.float .f64 a, .float .f64 b] w fun e w' => e = .returned (.bool true) ∧ w' = w := by
  go_enter Try.func4, Try.ntmps4
  go_wp2_with fail
  go_ret
  exact ⟨rfl, rfl⟩
set_option maxRecDepth 100000 in
theorem law2_out2 (a b : Nat) (h : (FloatKind.f64.format.order a a != some .eq) = false) (h' : (FloatKind.f64.format.order a 0 == some .lt) = true) (w : World) :
    Calls Try.prog 4 #[.float .f64 a, .float .f64 b] w fun e w' => e = .returned (.bool true) ∧ w' = w := by
  go_enter Try.func4, Try.ntmps4
  go_wp2_with fail
  go_ret
  exact ⟨rfl, rfl⟩
set_option maxRecDepth 100000 in
theorem law2_out3 (a b : Nat) (h : (FloatKind.f64.format.order a a != some .eq) = false) (h' : (FloatKind.f64.format.order a 0 == some .lt) = false)
    (k : (FloatKind.f64.format.order b b != some .eq) = true) (w : World) :
    Calls Try.prog 4 #[.float .f64 a, .float .f64 b] w fun e w' => e = .returned (.bool true) ∧ w' = w := by
  go_enter Try.func4, Try.ntmps4
  go_wp2_with fail
  go_ret
  exact ⟨rfl, rfl⟩
set_option maxRecDepth 100000 in
theorem law2_out4 (a b : Nat) (h : (FloatKind.f64.format.order a a != some .eq) = false) (h' : (FloatKind.f64.format.order a 0 == some .lt) = false)
    (k : (FloatKind.f64.format.order b b != some .eq) = false) (k' : (FloatKind.f64.format.order b 0 == some .lt) = true) (w : World) :
    Calls Try.prog 4 #[.float .f64 a, .float .f64 b] w fun e w' => e = .returned (.bool true) ∧ w' = w := by
  go_enter Try.func4, Try.ntmps4
  go_wp2_with fail
  go_ret
  exact ⟨rfl, rfl⟩

/-- Two ranges of 0 or more; which of the two is the farther is decided. -/
structure Two (a b ra rb : Nat) : Prop where
  a1 : (FloatKind.f64.format.order a a != some .eq) = false
  a2 : (FloatKind.f64.format.order a 0 == some .lt) = false
  b1 : (FloatKind.f64.format.order b b != some .eq) = false
  b2 : (FloatKind.f64.format.order b 0 == some .lt) = false
  za : ∀ w : World, Calls Try.prog 5 #[.float .f64 a] w fun e w' => e = .returned (.int .i64 (ra : Int)) ∧ w' = w
  zb : ∀ w : World, Calls Try.prog 5 #[.float .f64 b] w fun e w' => e = .returned (.int .i64 (rb : Int)) ∧ w' = w
  wa : ∀ w : World, Calls Try.prog 6 #[.float .f64 a, .int .i64 (ra : Int)] w fun e w' => e = .returned (.bool true) ∧ w' = w
  wb : ∀ w : World, Calls Try.prog 6 #[.float .f64 b, .int .i64 (rb : Int)] w fun e w' => e = .returned (.bool true) ∧ w' = w

set_option maxRecDepth 100000 in
set_option maxHeartbeats 800000 in
theorem law2_le (a b ra rb : Nat) (T : Two a b ra rb) (h : (FloatKind.f64.format.order a b == some .lt || FloatKind.f64.format.order a b == some .eq) = true) (hr : ra ≤ rb) (w : World) :
    Calls Try.prog 4 #[.float .f64 a, .float .f64 b] w fun e w' => e = .returned (.bool true) ∧ w' = w := by
  have a1 := T.a1
  have a2 := T.a2
  have b1 := T.b1
  have b2 := T.b2
  go_enter Try.func4, Try.ntmps4
  go_wp2_with fail
  refine (T.za _).mono ?_
  rintro e w' ⟨rfl, rfl⟩
  go_wp2_with fail
  refine (T.zb _).mono ?_
  rintro e w' ⟨rfl, rfl⟩
  go_wp2_with fail
  refine (T.wa _).mono ?_
  rintro e w' ⟨rfl, rfl⟩
  go_wp2_with fail
  refine (T.wb _).mono ?_
  rintro e w' ⟨rfl, rfl⟩
  go_wp2_with fail
  go_ret
  exact ⟨true_of (by simp), rfl⟩
set_option maxRecDepth 100000 in
set_option maxHeartbeats 800000 in
theorem law2_gt (a b ra rb : Nat) (T : Two a b ra rb) (h : (FloatKind.f64.format.order a b == some .lt || FloatKind.f64.format.order a b == some .eq) = false) (hr : rb ≤ ra) (w : World) :
    Calls Try.prog 4 #[.float .f64 a, .float .f64 b] w fun e w' => e = .returned (.bool true) ∧ w' = w := by
  have a1 := T.a1
  have a2 := T.a2
  have b1 := T.b1
  have b2 := T.b2
  go_enter Try.func4, Try.ntmps4
  go_wp2_with fail
  refine (T.za _).mono ?_
  rintro e w' ⟨rfl, rfl⟩
  go_wp2_with fail
  refine (T.zb _).mono ?_
  rintro e w' ⟨rfl, rfl⟩
  go_wp2_with fail
  refine (T.wa _).mono ?_
  rintro e w' ⟨rfl, rfl⟩
  go_wp2_with fail
  refine (T.wb _).mono ?_
  rintro e w' ⟨rfl, rfl⟩
  go_wp2_with fail
  go_ret
  exact ⟨true_of (by simp), rfl⟩

theorem order_le (a b : Nat) (ha : a ≤ 9218868437227405312) (hb : b ≤ 9218868437227405312) :
    (FloatKind.f64.format.order a b == some .lt || FloatKind.f64.format.order a b == some .eq) = decide (a ≤ b) := by
  by_cases hi : b = 9218868437227405312
  · subst hi
    have : decide (a ≤ 9218868437227405312) = true := by simpa using ha
    rw [this]
    by_cases hj : a = 9218868437227405312
    · subst hj; decide +kernel
    · have e : FloatKind.f64.format.order a 9218868437227405312 = some .lt := by
        show (Ieee.double.read a).order (Ieee.double.read 9218868437227405312) = _
        rw [Fl.read_fin a (by omega), Fl.read_inf]; rfl
      rw [e]; rfl
  · by_cases h : a ≤ b
    · rw [le_t ha (by omega) h]; simp [h]
    · rw [lt_f ha (by omega) (by omega), eq_f ha (by omega) (by omega)]; simp [h]

theorem law2 (a b : Nat) (ha : a < 18446744073709551616) (hb : b < 18446744073709551616) (w : World) :
    Calls Try.prog 4 #[.float .f64 a, .float .f64 b] w fun e w' => e = .returned (.bool true) ∧ w' = w := by
  rcases word_cases a ha with h | ⟨h, h'⟩ | h
  · exact law2_out1 a b h w
  · exact law2_out2 a b h h' w
  · rcases word_cases b hb with k | ⟨k, k'⟩ | k
    · exact law2_out3 a b (nz_self h) (nz_pos h) k w
    · exact law2_out4 a b (nz_self h) (nz_pos h) k k' w
    · have T : Two a b (vr (nz a)) (vr (nz b)) := ⟨nz_self h, nz_pos h, nz_self k, nz_pos k, zvr_nn a h, zvr_nn b k, within_nn a h, within_nn b k⟩
      have o := order_le (nz a) (nz b) (nz_le h) (nz_le k)
      rw [order_nz_l, order_nz_r] at o
      by_cases hle : nz a ≤ nz b
      · exact law2_le a b _ _ T (by rw [o]; simpa using hle) (vr_mono hle) w
      · exact law2_gt a b _ _ T (by rw [o]; simpa using hle) (vr_mono (by omega)) w
end Go.Proofs.Qxb6608663a
