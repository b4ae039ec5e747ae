import Derived.Test.Qxb6608663aFm
namespace Go.Proofs.Qxb6608663a.Fl
open Ieee
set_option exponentiation.threshold 3000

/-- The nearest whole number, halves up. -/
def R (x : Nat) : Nat := (V x + H) / (2 * H)

theorem R_succ {x y : Nat} (h : V y = V x + 2 * H) : R y = R x + 1 := by
  have hH := H_pos
  unfold R
  rw [h, show V x + 2 * H + H = V x + H + 2 * H by omega, Nat.add_div_right _ (by omega)]
theorem R_mono {x y : Nat} (h : x ≤ y) : R x ≤ R y := by
  unfold R
  exact Nat.div_le_div_right (Nat.add_le_add_right (V_le.2 h) _)
theorem R_lo (x : Nat) : R x * (2 * H) ≤ V x + H := Nat.div_mul_le_self _ _
theorem R_hi (x : Nat) : V x + H < (R x + 1) * (2 * H) := by
  have hH := H_pos
  unfold R
  rw [Nat.mul_comm]
  exact Nat.lt_mul_div_succ _ (by omega)

theorem R_small (x : Nat) (h : x < 4602678819172646912) : R x = 0 := by
  have h1 := V_lt.2 h
  rw [V_half] at h1
  unfold R
  exact Nat.div_eq_of_lt (by omega)
theorem R_mid (x : Nat) (h : x < 4607182418800017408) (h' : 4602678819172646912 ≤ x) : R x = 1 := by
  have h1 := V_lt.2 h
  have h2 := V_le.2 h'
  rw [V_half] at h2
  rw [V_one] at h1
  unfold R
  have hH := H_pos
  rw [Nat.div_eq_iff (by omega)]
  omega
theorem R_big (x k : Nat) (hk : x / 4503599627370496 = 1023 + k) (hk' : k ≤ 51) : R x = (4503599627370496 + x % 4503599627370496 + 2 ^ (51 - k)) / 2 ^ (52 - k) := by
  unfold R
  rw [V_norm x (1022 + k) (by omega), H2_at (52 - k) (1022 + k) (by omega), H_at (51 - k) (1022 + k) (by omega), ← Nat.add_mul, Nat.mul_div_mul_right _ _ (Nat.two_pow_pos _)]

/-- What math.Round makes of the bits of a number from 0 to 2147483647. -/
def rnd (x : Nat) : Nat :=
  if x < 4602678819172646912 then 0 else if x < 4607182418800017408 then 4607182418800017408
  else (x + 2 ^ (51 - (x / 4503599627370496 - 1023))) / 2 ^ (52 - (x / 4503599627370496 - 1023)) * 2 ^ (52 - (x / 4503599627370496 - 1023))

theorem toInt_fin (y : Nat) (hy : y / 4503599627370496 ≤ 1075) : (double.read y).toInt .zero = some ((M y / 2 ^ (1074 - X y) : Nat) : Int) := by
  rw [read_fin y (by omega)]
  have hx : X y ≤ 1074 := by unfold X; omega
  have e1 : (-1074 + (X y : Int)).toNat = 0 := by omega
  have e2 : (-(-1074 + (X y : Int))).toNat = 1074 - X y := by omega
  simp only [Datum.toInt, Datum.integral, signed, cut_zero, e1, e2, Nat.shiftLeft_zero, Bool.false_eq_true, if_false]

theorem rnd_big (x k : Nat) (hk : x / 4503599627370496 = 1023 + k) (hk' : k ≤ 30) (y : Nat) (hy : y = (x + 2 ^ (51 - k)) / 2 ^ (52 - k) * 2 ^ (52 - k)) :
    y / 4503599627370496 ≤ 1054 ∧ M y / 2 ^ (1074 - X y) = (4503599627370496 + x % 4503599627370496 + 2 ^ (51 - k)) / 2 ^ (52 - k) := by
  have hc : y / 4503599627370496 = 1023 + k ∨ y / 4503599627370496 = 1024 + k := by
    have : k = 0 ∨ k = 1 ∨ k = 2 ∨ k = 3 ∨ k = 4 ∨ k = 5 ∨ k = 6 ∨ k = 7 ∨ k = 8 ∨ k = 9 ∨ k = 10 ∨ k = 11 ∨ k = 12 ∨ k = 13 ∨ k = 14 ∨ k = 15 ∨ k = 16 ∨ k = 17 ∨ k = 18 ∨ k = 19 ∨ k = 20 ∨ k = 21 ∨ k = 22 ∨ k = 23 ∨ k = 24 ∨ k = 25 ∨ k = 26 ∨ k = 27 ∨ k = 28 ∨ k = 29 ∨ k = 30 := by omega
    rcases this with h | h | h | h | h | h | h | h | h | h | h | h | h | h | h | h | h | h | h | h | h | h | h | h | h | h | h | h | h | h | h <;> subst h <;> simp only [Nat.reduceSub, Nat.reducePow] at hy <;> omega
  have hM : M y = 4503599627370496 + y % 4503599627370496 := by unfold M; rw [if_neg (by omega)]
  have hX : X y = y / 4503599627370496 - 1 := rfl
  refine ⟨by omega, ?_⟩
  rw [hM, hX]
  rcases hc with hc | hc
  all_goals
    rw [hc]
    have : k = 0 ∨ k = 1 ∨ k = 2 ∨ k = 3 ∨ k = 4 ∨ k = 5 ∨ k = 6 ∨ k = 7 ∨ k = 8 ∨ k = 9 ∨ k = 10 ∨ k = 11 ∨ k = 12 ∨ k = 13 ∨ k = 14 ∨ k = 15 ∨ k = 16 ∨ k = 17 ∨ k = 18 ∨ k = 19 ∨ k = 20 ∨ k = 21 ∨ k = 22 ∨ k = 23 ∨ k = 24 ∨ k = 25 ∨ k = 26 ∨ k = 27 ∨ k = 28 ∨ k = 29 ∨ k = 30 := by omega
    rcases this with h | h | h | h | h | h | h | h | h | h | h | h | h | h | h | h | h | h | h | h | h | h | h | h | h | h | h | h | h | h | h <;> subst h <;> simp only [Nat.reduceSub, Nat.reducePow, Nat.reduceAdd] at hy hc hk ⊢ <;> omega

theorem toInt_rnd (x : Nat) (h : x ≤ 4746794007244308480) : (double.read (rnd x)).toInt .zero = some (R x : Int) := by
  unfold rnd
  by_cases h1 : x < 4602678819172646912
  · rw [if_pos h1, R_small x h1]; rfl
  · rw [if_neg h1]
    by_cases h2 : x < 4607182418800017408
    · rw [if_pos h2, R_mid x h2 (by omega)]; rfl
    · rw [if_neg h2]
      obtain ⟨k, hk⟩ : ∃ k, x / 4503599627370496 = 1023 + k := ⟨x / 4503599627370496 - 1023, by omega⟩
      have e : x / 4503599627370496 - 1023 = k := by omega
      rw [e, R_big x k hk (by omega)]
      obtain ⟨g1, g2⟩ := rnd_big x k hk (by omega) _ rfl
      rw [toInt_fin _ (by omega), g2]

theorem R_le (x : Nat) (h : x ≤ 4746794007244308480) : R x ≤ 2147483647 := by
  refine Nat.le_trans (R_mono h) ?_
  rw [R_big 4746794007244308480 30 (by decide) (by decide)]
  decide
theorem R_cap (x : Nat) (h : x ≤ 4746794007244308480) (h' : 4746794007242211328 ≤ x) : R x = 2147483647 := by
  have h1 := R_le x h
  have h2 := R_mono h'
  rw [R_big 4746794007242211328 30 (by decide) (by decide)] at h2
  have : (4503599627370496 + 4746794007242211328 % 4503599627370496 + 2 ^ (51 - 30)) / 2 ^ (52 - 30) = 2147483647 := by decide
  omega

/-- The bits of a whole number from 1 to 2147483647. -/
theorem ofNat_word (r : Nat) (h0 : 0 < r) (h : r ≤ 2147483648) : ∃ w, w < 9218868437227405312 ∧ double.nearest false r 0 = w ∧ V w = r * (2 * H) := by
  have hd : 2 * H = 2 ^ 1074 := by have := H2_at 1074 0 (by decide); rw [Nat.pow_zero, Nat.mul_one] at this; exact this
  obtain ⟨w, h1, h2, h3⟩ := nearest_val false r 1074 1074 (r * 2 ^ 1074) rfl h0 ⟨r, by rw [Nat.mul_comm]⟩ (by rw [Nat.pow_add]; exact Nat.mul_lt_mul_of_pos_right (Nat.lt_of_le_of_lt h (by decide)) (Nat.two_pow_pos _)) (by decide)
  refine ⟨w, h1, ?_, by rw [h3, hd]⟩
  have : (-1074 + ((1074 : Nat) : Int)) = 0 := by decide
  rw [this] at h2
  rw [h2]; rfl

theorem whole_above (w r : Nat) (h0 : 0 < r) (hv : V w = r * (2 * H)) : 4607182418800017408 ≤ w := by
  rw [← V_le, V_one, hv]
  exact Nat.le_mul_of_pos_left _ h0

theorem plus_half (w r : Nat) (hw : w < 9218868437227405312) (h : r ≤ 2147483648) (hv : V w = r * (2 * H)) :
    ∃ t, t < 9218868437227405312 ∧ double.add w 4602678819172646912 = some t ∧ V t = (2 * r + 1) * H := by
  have hH := H_pos
  have e : V w + V 4602678819172646912 = (2 * r + 1) * H := by rw [hv, V_half, Nat.add_mul, Nat.one_mul, ← Nat.mul_assoc, Nat.mul_comm r 2]
  obtain ⟨t, h1, h2, h3⟩ := add_exact w 4602678819172646912 1073 hw (by decide) (by rw [e]; exact Nat.mul_pos (by omega) hH) (by rw [e]; exact ⟨2 * r + 1, by unfold H; rw [Nat.mul_comm]⟩)
    (by rw [e, Nat.pow_add]; exact Nat.mul_lt_mul_of_pos_right (Nat.lt_of_le_of_lt (by omega : 2 * r + 1 ≤ 4294967297) (by decide)) hH) (by decide)
  exact ⟨t, h1, h2, by rw [h3, e]⟩

theorem minus_half (w r : Nat) (h0 : 0 < r) (hw : w < 9218868437227405312) (h : r ≤ 2147483648) (hv : V w = r * (2 * H)) :
    ∃ t, t < 9218868437227405312 ∧ double.sub w 4602678819172646912 = some t ∧ V t = (2 * r - 1) * H := by
  have hH := H_pos
  have hge := whole_above w r h0 hv
  have e : V w - V 4602678819172646912 = (2 * r - 1) * H := by rw [hv, V_half, Nat.sub_mul, Nat.one_mul, ← Nat.mul_assoc, Nat.mul_comm r 2]
  obtain ⟨t, h1, h2, h3⟩ := sub_exact w 4602678819172646912 1073 hw (by omega) (by rw [e]; exact ⟨2 * r - 1, by unfold H; rw [Nat.mul_comm]⟩)
    (by rw [e, Nat.pow_add]; exact Nat.mul_lt_mul_of_pos_right (Nat.lt_of_le_of_lt (by omega : 2 * r - 1 ≤ 4294967297) (by decide)) hH) (by decide)
  exact ⟨t, h1, h2, by rw [h3, e]⟩

/-- s - 1 for a float s from 1 to 2147483646.5. -/
theorem minus_one (s : Nat) (h1 : 4607182418800017408 ≤ s) (h2 : s < 4746794007242211328) :
    ∃ t, t < 9218868437227405312 ∧ double.sub s 4607182418800017408 = some t ∧ V s = V t + 2 * H := by
  by_cases he : s = 4607182418800017408
  · subst he
    refine ⟨0, by decide, by decide +kernel, ?_⟩
    rw [V_one]; decide +kernel
  · obtain ⟨e, hE⟩ : ∃ e, s / 4503599627370496 = e + 1 := ⟨s / 4503599627370496 - 1, by omega⟩
    have hv := V_norm s e hE
    have hlt := V_lt.2 (show 4607182418800017408 < s by omega)
    rw [V_one] at hlt
    obtain ⟨t, h3, h4, h5⟩ := sub_exact s 4607182418800017408 e (by omega) (by omega)
      (by
        rw [V_one]
        refine Nat.dvd_sub ⟨_, by rw [hv, Nat.mul_comm]⟩ ⟨2 ^ (1074 - e), ?_⟩
        exact H2_at e (1074 - e) (by omega))
      (by
        refine Nat.lt_of_le_of_lt (Nat.sub_le _ _) ?_
        rw [hv, Nat.pow_add]
        exact Nat.mul_lt_mul_of_pos_right (by omega) (Nat.two_pow_pos _))
      (by omega)
    refine ⟨t, h3, h4, ?_⟩
    rw [h5, V_one]; omega
end Go.Proofs.Qxb6608663a.Fl
