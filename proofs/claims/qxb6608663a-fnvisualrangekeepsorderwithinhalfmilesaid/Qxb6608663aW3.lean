import Derived.Test.Qxb6608663aW2
namespace Go.Proofs.Qxb6608663a
open Go.RowKit

theorem ofInt_nat (r : Nat) : floatOfInt .f64 (r : Int) = Ieee.double.nearest false r 0 := by
  show Ieee.double.nearest (decide ((r : Int) < 0)) (r : Int).natAbs 0 = _
  have e : decide ((r : Int) < 0) = false := by simp
  rw [e, Int.natAbs_natCast]

/-- The half mile on either side of the answer. -/
theorem halves (y r : Nat) (hy : y < 9218868437227405312) (hr : Fl.R y = r) (hb : r ≤ 2147483647) :
    ∃ t1 t2, FloatKind.f64.format.sub (floatOfInt .f64 (r : Int)) 4602678819172646912 = some t1 ∧ FloatKind.f64.format.add (floatOfInt .f64 (r : Int)) 4602678819172646912 = some t2 ∧
      (FloatKind.f64.format.order t1 y == some .gt) = false ∧ t2 < 9218868437227405312 ∧ y < t2 := by
  have lo := Fl.R_lo y
  have hi := Fl.R_hi y
  rw [hr] at lo hi
  rcases Nat.eq_zero_or_pos r with h0 | h0
  · subst h0
    refine ⟨9223372036854775808 + 4602678819172646912, 4602678819172646912, by decide +kernel, by decide +kernel, ?_, by decide, ?_⟩
    · rw [order_neg _ (by decide) (by decide) y hy]; rfl
    · rw [← Fl.V_lt, Fl.V_half]; omega
  · obtain ⟨w, hw, h1, h2⟩ := Fl.ofNat_word r h0 (by omega)
    obtain ⟨t1, a1, a2, a3⟩ := Fl.minus_half w r h0 hw (by omega) h2
    obtain ⟨t2, b1, b2, b3⟩ := Fl.plus_half w r hw (by omega) h2
    have e1 : (2 * r - 1) * Fl.H = r * (2 * Fl.H) - Fl.H := by rw [Nat.sub_mul, Nat.one_mul, ← Nat.mul_assoc, Nat.mul_comm r 2]
    have e2 : (2 * r + 1) * Fl.H = r * (2 * Fl.H) + Fl.H := by rw [Nat.add_mul, Nat.one_mul, ← Nat.mul_assoc, Nat.mul_comm r 2]
    have e3 : (r + 1) * (2 * Fl.H) = r * (2 * Fl.H) + 2 * Fl.H := by rw [Nat.add_mul, Nat.one_mul]
    refine ⟨t1, t2, ?_, ?_, ?_, b1, ?_⟩
    · rw [ofInt_nat, h1]; exact a2
    · rw [ofInt_nat, h1]; exact b2
    · refine gt_f (by omega) hy ?_
      rw [← Fl.V_le, a3, e1]; omega
    · rw [← Fl.V_lt, b3, e2]; omega

/-- One mile further. -/
theorem further (y : Nat) (hy : y < 4746794007242211328) :
    ∃ s t, FloatKind.f64.format.add y 4607182418800017408 = some s ∧ FloatKind.f64.format.sub s 4607182418800017408 = some t ∧ s ≤ 9218868437227405312 ∧
      ((FloatKind.f64.format.order t y == some .eq) = true → (FloatKind.f64.format.order s 4746794007242211328 == some .lt) = true → vr s = Fl.R y + 1) := by
  obtain ⟨mag, h1, h2⟩ := Fl.add_fin y 4607182418800017408 (by omega) (by decide)
  rw [Fl.V_one] at h1
  obtain ⟨g1, g2⟩ := Fl.nearest_ge_one mag _ (show 2 * Fl.H ≤ mag * 2 ^ min (Fl.X y) (Fl.X 4607182418800017408) by omega)
  generalize Ieee.double.nearest false mag (-1074 + ((min (Fl.X y) (Fl.X 4607182418800017408) : Nat) : Int)) = s at *
  by_cases hs : s < 4746794007242211328
  · obtain ⟨t, a1, a2, a3⟩ := Fl.minus_one s g1 hs
    refine ⟨s, t, h2, a2, g2, fun e1 _ => ?_⟩
    have ht : t = y := by
      by_cases h : t = y
      · exact h
      · rw [eq_f (by omega) (by omega) h] at e1; cases e1
    rw [vr_low hs]
    exact Fl.R_succ (by rw [a3, ht])
  · have hlt := lt_f g2 (show 4746794007242211328 < 9218868437227405312 by decide) (by omega : 4746794007242211328 ≤ s)
    by_cases hi : s = 9218868437227405312
    · subst hi
      refine ⟨_, 9218868437227405312, h2, by decide +kernel, g2, fun _ e => ?_⟩
      rw [hlt] at e; cases e
    · obtain ⟨mag', _, h4⟩ := Fl.sub_fin s 4607182418800017408 (by omega) (by omega)
      refine ⟨s, _, h2, h4, g2, fun _ e => ?_⟩
      rw [hlt] at e; cases e

theorem nz_self {x : Nat} (h : x ≤ 9218868437227405312 ∨ x = 9223372036854775808) : (FloatKind.f64.format.order x x != some .eq) = false := by
  rw [← order_nz_l, ← order_nz_r]; exact self_eq (nz_le h)
theorem nz_pos {x : Nat} (h : x ≤ 9218868437227405312 ∨ x = 9223372036854775808) : (FloatKind.f64.format.order x 0 == some .lt) = false := by
  rw [← order_nz_l]; exact lt_f (nz_le h) (by decide) (Nat.zero_le _)
theorem add_nz (x : Nat) : FloatKind.f64.format.add x 4607182418800017408 = FloatKind.f64.format.add (nz x) 4607182418800017408 := by
  unfold nz
  split
  · rename_i h; subst h; decide +kernel
  · rfl

/-- The facts that the walk of the first law uses below the cap. -/
structure Facts (x r t1 t2 s t : Nat) : Prop where
  s1 : (FloatKind.f64.format.order x x != some .eq) = false
  s2 : (FloatKind.f64.format.order x 0 == some .lt) = false
  s3 : (FloatKind.f64.format.order x 4746794007242211328 == some .gt || FloatKind.f64.format.order x 4746794007242211328 == some .eq) = false
  hb : r ≤ 2147483647
  hz : ∀ w : World, Calls Try.prog 5 #[.float .f64 x] w fun e w' => e = .returned (.int .i64 (r : Int)) ∧ w' = w
  f1 : FloatKind.f64.format.sub (floatOfInt .f64 (r : Int)) 4602678819172646912 = some t1
  f2 : FloatKind.f64.format.add (floatOfInt .f64 (r : Int)) 4602678819172646912 = some t2
  f3 : FloatKind.f64.format.add x 4607182418800017408 = some s
  f4 : FloatKind.f64.format.sub s 4607182418800017408 = some t
  g1 : (FloatKind.f64.format.order t1 x == some .gt) = false
  g2 : (FloatKind.f64.format.order x t2 == some .gt || FloatKind.f64.format.order x t2 == some .eq) = false

set_option maxRecDepth 100000 in
set_option maxHeartbeats 800000 in
theorem law1_a (x r t1 t2 s t : Nat) (F : Facts x r t1 t2 s t) (h : (FloatKind.f64.format.order t x == some .eq) = false) (w : World) :
    Calls Try.prog 3 #[.float .f64 x] w fun e w' => e = .returned (.bool true) ∧ w' = w := by
  obtain ⟨s1, s2, s3, hb, hz, f1, f2, f3, f4, g1, g2⟩ := F
  have a1 : ∀ w, (binOp .sub 22 (.float .f64 (floatOfInt .f64 (r : Int))) (.float .f64 4602678819172646912)).run Try.prog w = .ok (.float .f64 t1) w := fun w => run_float_arith w .sub 22 .f64 _ _ _ f1
  have a2 : ∀ w, (binOp .add 22 (.float .f64 (floatOfInt .f64 (r : Int))) (.float .f64 4602678819172646912)).run Try.prog w = .ok (.float .f64 t2) w := fun w => run_float_arith w .add 22 .f64 _ _ _ f2
  have a3 : ∀ w, (binOp .add 22 (.float .f64 x) (.float .f64 4607182418800017408)).run Try.prog w = .ok (.float .f64 s) w := fun w => run_float_arith w .add 22 .f64 _ _ _ f3
  have a4 : ∀ w, (binOp .sub 22 (.float .f64 s) (.float .f64 4607182418800017408)).run Try.prog w = .ok (.float .f64 t) w := fun w => run_float_arith w .sub 22 .f64 _ _ _ f4
  have HZ : Hid (∀ w : World, Calls Try.prog 5 #[.float .f64 x] w fun e w' => e = .returned (.int .i64 (r : Int)) ∧ w' = w) := hz
  clear f1 f2 f3 f4 hz
  go_enter Try.func3, Try.ntmps3
  go_wp2_with (go_at_call 5; refine (HZ.out _).mono ?_; rintro e w' ⟨rfl, rfl⟩)
  go_ret
  exact ⟨rfl, rfl⟩
set_option maxRecDepth 100000 in
set_option maxHeartbeats 800000 in
theorem law1_b (x r t1 t2 s t : Nat) (F : Facts x r t1 t2 s t) (h : (FloatKind.f64.format.order t x == some .eq) = true) (h' : (FloatKind.f64.format.order s 4746794007242211328 == some .lt) = false) (w : World) :
    Calls Try.prog 3 #[.float .f64 x] w fun e w' => e = .returned (.bool true) ∧ w' = w := by
  obtain ⟨s1, s2, s3, hb, hz, f1, f2, f3, f4, g1, g2⟩ := F
  have a1 : ∀ w, (binOp .sub 22 (.float .f64 (floatOfInt .f64 (r : Int))) (.float .f64 4602678819172646912)).run Try.prog w = .ok (.float .f64 t1) w := fun w => run_float_arith w .sub 22 .f64 _ _ _ f1
  have a2 : ∀ w, (binOp .add 22 (.float .f64 (floatOfInt .f64 (r : Int))) (.float .f64 4602678819172646912)).run Try.prog w = .ok (.float .f64 t2) w := fun w => run_float_arith w .add 22 .f64 _ _ _ f2
  have a3 : ∀ w, (binOp .add 22 (.float .f64 x) (.float .f64 4607182418800017408)).run Try.prog w = .ok (.float .f64 s) w := fun w => run_float_arith w .add 22 .f64 _ _ _ f3
  have a4 : ∀ w, (binOp .sub 22 (.float .f64 s) (.float .f64 4607182418800017408)).run Try.prog w = .ok (.float .f64 t) w := fun w => run_float_arith w .sub 22 .f64 _ _ _ f4
  have HZ : Hid (∀ w : World, Calls Try.prog 5 #[.float .f64 x] w fun e w' => e = .returned (.int .i64 (r : Int)) ∧ w' = w) := hz
  clear f1 f2 f3 f4 hz
  go_enter Try.func3, Try.ntmps3
  go_wp2_with (go_at_call 5; refine (HZ.out _).mono ?_; rintro e w' ⟨rfl, rfl⟩)
  go_ret
  exact ⟨rfl, rfl⟩
set_option maxRecDepth 100000 in
set_option maxHeartbeats 800000 in
theorem law1_c (x r t1 t2 s t : Nat) (F : Facts x r t1 t2 s t) (h : (FloatKind.f64.format.order t x == some .eq) = true) (h' : (FloatKind.f64.format.order s 4746794007242211328 == some .lt) = true)
    (hs : ∀ w : World, Calls Try.prog 5 #[.float .f64 s] w fun e w' => e = .returned (.int .i64 ((r : Int) + 1)) ∧ w' = w) (w : World) :
    Calls Try.prog 3 #[.float .f64 x] w fun e w' => e = .returned (.bool true) ∧ w' = w := by
  obtain ⟨s1, s2, s3, hb, hz, f1, f2, f3, f4, g1, g2⟩ := F
  have a1 : ∀ w, (binOp .sub 22 (.float .f64 (floatOfInt .f64 (r : Int))) (.float .f64 4602678819172646912)).run Try.prog w = .ok (.float .f64 t1) w := fun w => run_float_arith w .sub 22 .f64 _ _ _ f1
  have a2 : ∀ w, (binOp .add 22 (.float .f64 (floatOfInt .f64 (r : Int))) (.float .f64 4602678819172646912)).run Try.prog w = .ok (.float .f64 t2) w := fun w => run_float_arith w .add 22 .f64 _ _ _ f2
  have a3 : ∀ w, (binOp .add 22 (.float .f64 x) (.float .f64 4607182418800017408)).run Try.prog w = .ok (.float .f64 s) w := fun w => run_float_arith w .add 22 .f64 _ _ _ f3
  have a4 : ∀ w, (binOp .sub 22 (.float .f64 s) (.float .f64 4607182418800017408)).run Try.prog w = .ok (.float .f64 t) w := fun w => run_float_arith w .sub 22 .f64 _ _ _ f4
  have HZ : Hid (∀ w : World, Calls Try.prog 5 #[.float .f64 x] w fun e w' => e = .returned (.int .i64 (r : Int)) ∧ w' = w) := hz
  have HS : Hid (∀ w : World, Calls Try.prog 5 #[.float .f64 s] w fun e w' => e = .returned (.int .i64 ((r : Int) + 1)) ∧ w' = w) := hs
  clear f1 f2 f3 f4 hz hs
  go_enter Try.func3, Try.ntmps3
  go_wp2_with fail
  refine (HZ.out _).mono ?_
  rintro e w' ⟨rfl, rfl⟩
  go_wp2_with fail
  refine (HS.out _).mono ?_
  rintro e w' ⟨rfl, rfl⟩
  go_wp2_with fail
  go_ret
  exact ⟨true_of (by simp), rfl⟩

set_option maxRecDepth 100000 in
theorem law1_nan (x : Nat) (h : (FloatKind.f64.format.order x x != some .eq) = true) (w : World) :
    Calls Try.prog 3 #[.float .f64 x] w fun e w' => e = .returned (.bool true) ∧ w' = w := by
  go_enter Try.func3, Try.ntmps3
  go_wp2_with fail
  go_ret
  exact ⟨rfl, rfl⟩
set_option maxRecDepth 100000 in
theorem law1_neg (x : Nat) (h : (FloatKind.f64.format.order x x != some .eq) = false) (h' : (FloatKind.f64.format.order x 0 == some .lt) = true) (w : World) :
    Calls Try.prog 3 #[.float .f64 x] w fun e w' => e = .returned (.bool true) ∧ w' = w := by
  go_enter Try.func3, Try.ntmps3
  go_wp2_with fail
  go_ret
  exact ⟨rfl, rfl⟩

theorem law1 (x : Nat) (hx : x < 18446744073709551616) (w : World) :
    Calls Try.prog 3 #[.float .f64 x] w fun e w' => e = .returned (.bool true) ∧ w' = w := by
  rcases word_cases x hx with h | ⟨h, h'⟩ | h
  · exact law1_nan x h w
  · exact law1_neg x h h' w
  · by_cases hC : nz x < 4746794007242211328
    · have hb : Fl.R (nz x) ≤ 2147483647 := Fl.R_le _ (by omega)
      obtain ⟨t1, t2, f1, f2, g1, ht2, g2⟩ := halves (nz x) _ (by omega) rfl hb
      obtain ⟨s, t, f3, f4, hs, hc⟩ := further (nz x) hC
      have F : Facts x (Fl.R (nz x)) t1 t2 s t := {
        s1 := nz_self h
        s2 := nz_pos h
        s3 := by rw [← order_nz_l]; exact ge_f (nz_le h) (by decide) hC
        hb := hb
        hz := fun w => by rw [← vr_low hC]; exact zvr_nn x h w
        f1 := f1
        f2 := f2
        f3 := by rw [add_nz]; exact f3
        f4 := f4
        g1 := by rw [← order_nz_r]; exact g1
        g2 := by rw [← order_nz_l]; exact ge_f (nz_le h) ht2 g2 }
      rw [order_nz_r] at hc
      rcases Bool.eq_false_or_eq_true (FloatKind.f64.format.order t x == some .eq) with h1 | h1
      · rcases Bool.eq_false_or_eq_true (FloatKind.f64.format.order s 4746794007242211328 == some .lt) with h2 | h2
        · refine law1_c x _ t1 t2 s t F h1 h2 (fun w => ?_) w
          have := zvr_walk s hs w
          rw [hc h1 h2] at this
          exact this
        · exact law1_b x _ t1 t2 s t F h1 h2 w
      · exact law1_a x _ t1 t2 s t F h1 w
    · rcases h with h | h
      · have e : nz x = x := by unfold nz; rw [if_neg (by omega)]
        rw [e] at hC
        exact law1_cap x h (by omega) w
      · subst h; exact absurd (by decide) hC
end Go.Proofs.Qxb6608663a
