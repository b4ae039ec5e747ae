import Derived.Test.Qxb6608663aW1
namespace Go.Proofs.Qxb6608663a
open Go.RowKit

/-! ### Comparisons of words that are 0 or more -/
theorem lt_t {a b : Nat} (ha : a ≤ 9218868437227405312) (hb : b < 9218868437227405312) (h : a < b) : (FloatKind.f64.format.order a b == some .lt) = true := by
  rw [order_f64 a b ha hb, cmp_lt h]; rfl
theorem lt_f {a b : Nat} (ha : a ≤ 9218868437227405312) (hb : b < 9218868437227405312) (h : b ≤ a) : (FloatKind.f64.format.order a b == some .lt) = false := by
  rw [order_f64 a b ha hb]; exact cmp_ge (by omega)
theorem cmp_gt {a b : Nat} (h : b < a) : compare a b = .gt := by
  simp only [compare, compareOfLessAndEq]; rw [if_neg (by omega), if_neg (by omega)]
theorem cmp_eq (a : Nat) : compare a a = .eq := by
  simp only [compare, compareOfLessAndEq]; simp
theorem gt_t {a b : Nat} (ha : a ≤ 9218868437227405312) (hb : b < 9218868437227405312) (h : b < a) : (FloatKind.f64.format.order a b == some .gt) = true := by
  rw [order_f64 a b ha hb, cmp_gt h]; rfl
theorem gt_f {a b : Nat} (ha : a ≤ 9218868437227405312) (hb : b < 9218868437227405312) (h : a ≤ b) : (FloatKind.f64.format.order a b == some .gt) = false := by
  rw [order_f64 a b ha hb]
  rcases Nat.lt_or_eq_of_le h with h | h
  · rw [cmp_lt h]; rfl
  · subst h; rw [cmp_eq]; rfl
theorem eq_t {a : Nat} (ha : a < 9218868437227405312) : (FloatKind.f64.format.order a a == some .eq) = true := by
  rw [order_f64 a a (by omega) ha, cmp_eq]; rfl
theorem eq_f {a b : Nat} (ha : a ≤ 9218868437227405312) (hb : b < 9218868437227405312) (h : ¬ a = b) : (FloatKind.f64.format.order a b == some .eq) = false := by
  rw [order_f64 a b ha hb]
  rcases Nat.lt_or_gt_of_ne h with h | h
  · rw [cmp_lt h]; rfl
  · rw [cmp_gt h]; rfl
theorem eq_inf : (FloatKind.f64.format.order 9218868437227405312 9218868437227405312 == some .eq) = true := by decide +kernel
theorem self_eq {a : Nat} (ha : a ≤ 9218868437227405312) : (FloatKind.f64.format.order a a != some .eq) = false := by
  by_cases h : a = 9218868437227405312
  · subst h; decide +kernel
  · have := eq_t (a := a) (by omega)
    simp only [bne, this]; rfl

theorem ge_t {a b : Nat} (ha : a ≤ 9218868437227405312) (hb : b < 9218868437227405312) (h : b ≤ a) : (FloatKind.f64.format.order a b == some .gt || FloatKind.f64.format.order a b == some .eq) = true := by
  rcases Nat.lt_or_eq_of_le h with h | h
  · rw [gt_t ha hb h]; rfl
  · subst h; rw [eq_t hb]; simp
theorem ge_f {a b : Nat} (ha : a ≤ 9218868437227405312) (hb : b < 9218868437227405312) (h : a < b) : (FloatKind.f64.format.order a b == some .gt || FloatKind.f64.format.order a b == some .eq) = false := by
  rw [gt_f ha hb (by omega), eq_f ha hb (by omega)]; rfl
theorem le_t {a b : Nat} (ha : a ≤ 9218868437227405312) (hb : b < 9218868437227405312) (h : a ≤ b) : (FloatKind.f64.format.order a b == some .lt || FloatKind.f64.format.order a b == some .eq) = true := by
  rcases Nat.lt_or_eq_of_le h with h | h
  · rw [lt_t ha hb h]; rfl
  · subst h; rw [eq_t hb]; simp

theorem vr_cap {x : Nat} (hC : 4746794007242211328 ≤ x) : ((vr x : Nat) : Int) = 2147483647 := by
  have : vr x = 2147483647 := by
    unfold vr
    refine Fl.R_cap _ (mn_le x) ?_
    unfold mn; split <;> omega
  rw [this]; rfl
theorem vr_low {x : Nat} (hC : x < 4746794007242211328) : vr x = Fl.R x := by
  unfold vr mn; rw [if_pos (by omega)]

theorem true_of {b : Bool} (h : b = true) : Ending.returned (.bool b) = .returned (.bool true) := by rw [h]

set_option maxRecDepth 100000 in
theorem law1_cap (x : Nat) (hx : x ≤ 9218868437227405312) (hC : 4746794007242211328 ≤ x) (w : World) :
    Calls Try.prog 3 #[.float .f64 x] w fun e w' => e = .returned (.bool true) ∧ w' = w := by
  have s1 := self_eq hx
  have s2 := lt_f hx (show 0 < 9218868437227405312 by decide) (Nat.zero_le x)
  have s3 := ge_t hx (show 4746794007242211328 < 9218868437227405312 by decide) hC
  have hv : Hid (((vr x : Nat) : Int) = 2147483647) := vr_cap hC
  go_enter Try.func3, Try.ntmps3
  go_wp2_with (go_at_call 5; refine (zvr_walk x hx _).mono ?_; rintro e w' ⟨rfl, rfl⟩)
  go_ret
  exact ⟨true_of (by rw [hv.out]; rfl), rfl⟩

theorem zvr_r (x r : Nat) (hx : x ≤ 9218868437227405312) (h : vr x = r) (w : World) :
    Calls Try.prog 5 #[.float .f64 x] w fun e w' => e = .returned (.int .i64 (r : Int)) ∧ w' = w := by rw [← h]; exact zvr_walk x hx w

/-! ### The negative words -/
theorem read_neg (r : Nat) (h : r < 9218868437227405312) : Ieee.double.read (9223372036854775808 + r) = .number true (Fl.M r) (-1074 + (Fl.X r : Nat)) := by
  unfold Ieee.Format.read Fl.M Fl.X
  rw [Fl.sw, Fl.bn, Fl.ir, Fl.lp]
  have h1 : (9223372036854775808 + r) / 9223372036854775808 % 2 = 1 := by omega
  have h2 : (9223372036854775808 + r) % 9223372036854775808 = r := by omega
  simp only [h1, h2]
  by_cases hb : r < 4503599627370496
  · have h3 : r / 4503599627370496 = 0 := by omega
    simp [hb, h3]
  · simp [hb, h]
theorem read_nan (x : Nat) (h : 9218868437227405312 < x % 9223372036854775808) : ∃ n f, Ieee.double.read x = .nan n f := by
  unfold Ieee.Format.read
  rw [Fl.sw, Fl.bn, Fl.ir, Fl.lp]
  dsimp only
  rw [if_neg (by omega), if_neg (by omega), if_neg (by omega)]
  exact ⟨_, _, rfl⟩
theorem order_self_nan (x : Nat) (h : 9218868437227405312 < x % 9223372036854775808) : (FloatKind.f64.format.order x x != some .eq) = true := by
  obtain ⟨n, f, e⟩ := read_nan x h
  have : FloatKind.f64.format.order x x = none := by
    show (Ieee.double.read x).order (Ieee.double.read x) = none
    rw [e]; rfl
  rw [this]; rfl
theorem order_neg (r : Nat) (h0 : 0 < r) (h : r < 9218868437227405312) (y : Nat) (hy : y < 9218868437227405312) : FloatKind.f64.format.order (9223372036854775808 + r) y = some .lt := by
  show (Ieee.double.read (9223372036854775808 + r)).order (Ieee.double.read y) = _
  rw [read_neg r h, Fl.read_fin y hy]
  simp only [Ieee.Datum.order, Ieee.signed, if_true, Bool.false_eq_true, if_false, Nat.shiftLeft_eq]
  have hm : 0 < Fl.M r := by unfold Fl.M; split <;> omega
  have hp := Nat.mul_pos hm (Nat.two_pow_pos (-1074 + (Fl.X r : Int) - min (-1074 + (Fl.X r : Int)) (-1074 + (Fl.X y : Int))).toNat)
  generalize Fl.M r * 2 ^ (-1074 + (Fl.X r : Int) - min (-1074 + (Fl.X r : Int)) (-1074 + (Fl.X y : Int))).toNat = p at *
  generalize Fl.M y * 2 ^ (-1074 + (Fl.X y : Int) - min (-1074 + (Fl.X r : Int)) (-1074 + (Fl.X y : Int))).toNat = q at *
  simp only [compare, compareOfLessAndEq]
  have : -(p : Int) < (q : Int) := by omega
  rw [if_pos this]
theorem order_neg_self (r : Nat) (h : r < 9218868437227405312) : FloatKind.f64.format.order (9223372036854775808 + r) (9223372036854775808 + r) = some .eq := by
  show (Ieee.double.read (9223372036854775808 + r)).order (Ieee.double.read (9223372036854775808 + r)) = _
  rw [read_neg r h]
  simp only [Ieee.Datum.order, compare, compareOfLessAndEq]
  simp
/-- Every word: a NaN; below 0; or 0 or more. -/
theorem word_cases (x : Nat) (h : x < 18446744073709551616) :
    (FloatKind.f64.format.order x x != some .eq) = true ∨ ((FloatKind.f64.format.order x x != some .eq) = false ∧ (FloatKind.f64.format.order x 0 == some .lt) = true) ∨ x ≤ 9218868437227405312 ∨ x = 9223372036854775808 := by
  by_cases h1 : 9218868437227405312 < x % 9223372036854775808
  · exact Or.inl (order_self_nan x h1)
  · by_cases h2 : x ≤ 9218868437227405312
    · exact Or.inr (Or.inr (Or.inl h2))
    · by_cases h3 : x = 9223372036854775808
      · exact Or.inr (Or.inr (Or.inr h3))
      · refine Or.inr (Or.inl ?_)
        by_cases h4 : x = 18442240474082181120
        · subst h4; exact ⟨by decide +kernel, by decide +kernel⟩
        · obtain ⟨r, rfl⟩ : ∃ r, x = 9223372036854775808 + r := ⟨x - 9223372036854775808, by omega⟩
          rw [order_neg_self r (by omega), order_neg r (by omega) (by omega) 0 (by decide)]
          exact ⟨rfl, rfl⟩
/-- The word 0 in the place of the word -0. -/
def nz (x : Nat) : Nat := if x = 9223372036854775808 then 0 else x
theorem order_nz_l (x y : Nat) : FloatKind.f64.format.order (nz x) y = FloatKind.f64.format.order x y := by
  unfold nz
  split
  · rename_i h; subst h
    show (Ieee.double.read 0).order (Ieee.double.read y) = (Ieee.double.read 9223372036854775808).order (Ieee.double.read y)
    rw [show Ieee.double.read 0 = .number false 0 (-1074) from rfl, show Ieee.double.read 9223372036854775808 = .number true 0 (-1074) from rfl]
    cases Ieee.double.read y <;> simp [Ieee.Datum.order, Ieee.signed]
  · rfl
theorem order_nz_r (x y : Nat) : FloatKind.f64.format.order x (nz y) = FloatKind.f64.format.order x y := by
  unfold nz
  split
  · rename_i h; subst h
    show (Ieee.double.read x).order (Ieee.double.read 0) = (Ieee.double.read x).order (Ieee.double.read 9223372036854775808)
    rw [show Ieee.double.read 0 = .number false 0 (-1074) from rfl, show Ieee.double.read 9223372036854775808 = .number true 0 (-1074) from rfl]
    cases Ieee.double.read x <;> simp [Ieee.Datum.order, Ieee.signed]
  · rfl
theorem nz_le {x : Nat} (h : x ≤ 9218868437227405312 ∨ x = 9223372036854775808) : nz x ≤ 9218868437227405312 := by
  unfold nz; split <;> omega

/-! ### visualRange at -0 -/
theorem min_run_nz (w : World) : (callFunc 12 #[.float .f64 9223372036854775808, .float .f64 4746794007244308480]).run Try.prog w = .ok (.value (.float .f64 9223372036854775808)) w := by
  rw [run_callFunc_extern Try.func12 (by kernel_rfl) (by kernel_rfl) x12 y12]
  have hp : Extern.MathDim.pick "math.archMin" true .lt #[.float .f64 9223372036854775808, .float .f64 4746794007244308480] = pure (.float .f64 9223372036854775808) := by kernel_rfl
  rw [hp]; rfl
theorem bits_nz1 : bits .and .u64 2048 2047 = 0 := by decide +kernel
theorem bits_nz2 : bits .and .u64 9223372036854775808 9223372036854775808 = 9223372036854775808 := by decide +kernel
set_option maxRecDepth 100000 in
theorem round_nz (w : World) :
    Calls Try.prog 8 #[.float .f64 9223372036854775808] w fun e w' => e = .returned (.float .f64 9223372036854775808) ∧ w' = w := by
  have b1 : ∀ w : World, (callFunc 10 #[.float .f64 9223372036854775808]).run Try.prog w = .ok (.value (.int .u64 9223372036854775808)) w := fun w => bits_run 9223372036854775808 w
  have b2 : ∀ w : World, (callFunc 11 #[.int .u64 9223372036854775808]).run Try.prog w = .ok (.value (.float .f64 9223372036854775808)) w := fun w => from_run 9223372036854775808 w
  have b3 := bits_nz1
  have b4 := bits_nz2
  go_enter Try.func8, Try.ntmps8
  go_wp2
  go_ret
  exact ⟨rfl, rfl⟩
theorem min_nz (w : World) :
    Calls Try.prog 9 #[.float .f64 9223372036854775808, .float .f64 4746794007244308480] w fun e w' => e = .returned (.float .f64 9223372036854775808) ∧ w' = w := by
  have hr := min_run_nz
  go_enter Try.func9, Try.ntmps9
  go_wp2
  go_ret
  exact ⟨rfl, rfl⟩
theorem conv_nz (w : World) : (convert 22 3 (.float .f64 9223372036854775808)).run Try.prog w = .ok (.int .i64 0) w :=
  run_convert_float_int w 22 3 .f64 .i64 _ _ (by rw [Try.underlying22]; rfl) Try.underlying3 (by decide +kernel)
theorem zvr_nz (w : World) :
    Calls Try.prog 5 #[.float .f64 9223372036854775808] w fun e w' => e = .returned (.int .i64 0) ∧ w' = w := by
  have hc := conv_nz
  go_enter Try.func5, Try.ntmps5
  go_wp2_with (first | (go_at_call 7; go_in) | (go_at_call 9; refine (min_nz _).mono ?_; rintro e w' ⟨rfl, rfl⟩) | (go_at_call 8; refine (round_nz _).mono ?_; rintro e w' ⟨rfl, rfl⟩))
  go_ret
  exact ⟨rfl, rfl⟩
theorem zvr_nn (x : Nat) (h : x ≤ 9218868437227405312 ∨ x = 9223372036854775808) (w : World) :
    Calls Try.prog 5 #[.float .f64 x] w fun e w' => e = .returned (.int .i64 (vr (nz x) : Int)) ∧ w' = w := by
  rcases h with h | h
  · have e : nz x = x := by unfold nz; rw [if_neg (by omega)]
    rw [e]; exact zvr_walk x h w
  · subst h
    have e : vr (nz 9223372036854775808) = 0 := by
      rw [show nz 9223372036854775808 = 0 from rfl, vr_low (by decide), Fl.R_small 0 (by decide)]
    rw [e]; exact zvr_nz w
end Go.Proofs.Qxb6608663a
