import Ieee.Arith
namespace Go.Proofs.Qxb6608663a.Fl
open Ieee

/-- The whole significand of a rung. -/
def M (r : Nat) : Nat := if r < 4503599627370496 then r else 4503599627370496 + r % 4503599627370496
/-- The binade of a rung, counted from the subnormal one. -/
def X (r : Nat) : Nat := r / 4503599627370496 - 1
/-- The value of a rung, in units of two to the -1074. -/
def V (r : Nat) : Nat := M r * 2 ^ X r

theorem sw : double.signWeight = 9223372036854775808 := by rfl
theorem bn : double.binade = 4503599627370496 := by rfl
theorem ir : double.infRung = 9218868437227405312 := by rfl
theorem lp : double.leastPlace = -1074 := by rfl
theorem fb : double.fractionBits = 52 := by rfl

theorem read_fin (w : Nat) (h : w < 9218868437227405312) : double.read w = .number false (M w) (-1074 + (X w : Nat)) := by
  unfold Format.read M X
  rw [sw, bn, ir, lp]
  have h1 : w / 9223372036854775808 % 2 = 0 := by omega
  have h2 : w % 9223372036854775808 = w := by omega
  simp only [h1, h2]
  by_cases hb : w < 4503599627370496
  · have h3 : w / 4503599627370496 = 0 := by omega
    simp [hb, h3]
  · simp [hb, h]

theorem read_inf : double.read 9218868437227405312 = .infinity false := by rfl

theorem X_bin (w : Nat) : M w < 9007199254740992 := by unfold M; split <;> omega
theorem V_mono {a b : Nat} (h : a < b) : V a < V b := by
  unfold V
  by_cases e : X a = X b
  · rw [e]
    refine Nat.mul_lt_mul_of_pos_right ?_ (Nat.two_pow_pos _)
    unfold M
    unfold X at e
    split <;> split <;> omega
  · have hx : X a + 1 ≤ X b := by unfold X at *; omega
    have hb : 4503599627370496 ≤ M b := by unfold M; unfold X at hx; split <;> omega
    calc M a * 2 ^ X a < 9007199254740992 * 2 ^ X a := Nat.mul_lt_mul_of_pos_right (X_bin a) (Nat.two_pow_pos _)
      _ = 4503599627370496 * 2 ^ (X a + 1) := by rw [Nat.pow_succ]; omega
      _ ≤ 4503599627370496 * 2 ^ X b := Nat.mul_le_mul_left _ (Nat.pow_le_pow_right (by decide) hx)
      _ ≤ M b * 2 ^ X b := Nat.mul_le_mul_right _ hb

theorem V_lt {a b : Nat} : V a < V b ↔ a < b := by
  constructor
  · intro h
    rcases Nat.lt_trichotomy a b with h1 | h1 | h1
    · exact h1
    · subst h1; omega
    · have := V_mono h1; omega
  · exact V_mono
theorem V_le {a b : Nat} : V a ≤ V b ↔ a ≤ b := by
  have := @V_lt b a
  omega
theorem V_inj {a b : Nat} (h : V a = V b) : a = b := by
  have h1 := @V_le a b
  have h2 := @V_le b a
  omega

theorem cmp_int (m n : Nat) : compare (m : Int) (n : Int) = compare m n := by
  simp only [compare, compareOfLessAndEq]
  by_cases h1 : m < n
  · have h1' : (m : Int) < (n : Int) := by omega
    rw [if_pos h1, if_pos h1']
  · have h1' : ¬ (m : Int) < (n : Int) := by omega
    rw [if_neg h1, if_neg h1']
    by_cases h2 : m = n
    · have h2' : (m : Int) = (n : Int) := by omega
      rw [if_pos h2, if_pos h2']
    · have h2' : ¬ (m : Int) = (n : Int) := by omega
      rw [if_neg h2, if_neg h2']
theorem cmp_mul (m n c : Nat) (h : 0 < c) : compare (m * c) (n * c) = compare m n := by
  simp only [compare, compareOfLessAndEq]
  by_cases h1 : m < n
  · rw [if_pos h1, if_pos (Nat.mul_lt_mul_of_pos_right h1 h)]
  · rw [if_neg h1, if_neg (by have := Nat.mul_le_mul_right c (Nat.not_lt.1 h1); omega)]
    by_cases h2 : m = n
    · rw [if_pos h2, if_pos (by rw [h2])]
    · rw [if_neg h2, if_neg (fun h3 => h2 (Nat.eq_of_mul_eq_mul_right h h3))]
theorem cmp_V (a b : Nat) : compare (V a) (V b) = compare a b := by
  simp only [compare, compareOfLessAndEq]
  by_cases h1 : a < b
  · rw [if_pos h1, if_pos (V_mono h1)]
  · rw [if_neg h1, if_neg (fun h => h1 (V_lt.1 h))]
    by_cases h2 : a = b
    · rw [if_pos h2, if_pos (by rw [h2])]
    · rw [if_neg h2, if_neg (fun h => h2 (V_inj h))]

theorem order_fin (a b : Nat) (ha : a < 9218868437227405312) (hb : b < 9218868437227405312) : double.order a b = some (compare a b) := by
  unfold Format.order
  rw [read_fin a ha, read_fin b hb]
  simp only [Datum.order, signed]
  rw [← cmp_V]
  have e1 : (-1074 + (X a : Int) - min (-1074 + (X a : Int)) (-1074 + (X b : Int))).toNat = X a - min (X a) (X b) := by omega
  have e2 : (-1074 + (X b : Int) - min (-1074 + (X a : Int)) (-1074 + (X b : Int))).toNat = X b - min (X a) (X b) := by omega
  rw [e1, e2]
  simp only [Bool.false_eq_true, if_false]
  rw [cmp_int, Nat.shiftLeft_eq, Nat.shiftLeft_eq, ← cmp_mul _ _ (2 ^ min (X a) (X b)) (Nat.two_pow_pos _)]
  rw [Nat.mul_assoc, Nat.mul_assoc, ← Nat.pow_add, ← Nat.pow_add]
  rw [show X a - min (X a) (X b) + min (X a) (X b) = X a by omega, show X b - min (X a) (X b) + min (X a) (X b) = X b by omega]
  rfl

theorem order_any (a b : Nat) (ha : a ≤ 9218868437227405312) (hb : b < 9218868437227405312) : double.order a b = some (compare a b) := by
  by_cases h : a = 9218868437227405312
  · subst h
    unfold Format.order
    rw [read_inf, read_fin b hb]
    simp only [Datum.order]
    simp only [compare, compareOfLessAndEq]
    have h1 : ¬ 9218868437227405312 < b := by omega
    have h2 : ¬ 9218868437227405312 = b := by omega
    rw [if_neg h1, if_neg h2]
    rfl
  · exact order_fin a b (by omega) hb

theorem cut_exact (neg : Bool) (n d : Nat) (hn : 0 < n) (h : 2 ^ d ∣ n) : Toward.even.cut neg n d = n / 2 ^ d := by
  unfold Toward.cut
  have hd : d ≤ n.log2 := (Nat.le_log2 (by omega)).2 (Nat.le_of_dvd hn h)
  rw [show min d (n.log2 + 2) = d by omega]
  simp only [Nat.shiftLeft_eq, Nat.one_mul]
  rw [Nat.mod_eq_zero_of_dvd h]
  have hp := Nat.two_pow_pos d
  have e1 : ¬ (2 ^ d < 2 * 0) := by omega
  have e2 : ((2 ^ d) == 2 * 0) = false := by simp
  simp [e1, e2]

theorem cut_zero (neg : Bool) (n d : Nat) : Toward.zero.cut neg n d = n / 2 ^ d := by
  unfold Toward.cut
  simp only [Nat.shiftLeft_eq, Nat.one_mul]
  by_cases h : d ≤ n.log2 + 2
  · rw [show min d (n.log2 + 2) = d by omega]; simp
  · rw [show min d (n.log2 + 2) = n.log2 + 2 by omega]
    have h1 : n < 2 ^ (n.log2 + 2) := Nat.lt_of_lt_of_le Nat.lt_log2_self (Nat.pow_le_pow_right (by decide) (by omega))
    have h2 : n < 2 ^ d := Nat.lt_of_lt_of_le h1 (Nat.pow_le_pow_right (by decide) (by omega))
    rw [Nat.div_eq_of_lt h1, Nat.div_eq_of_lt h2]; simp

/-- A number that the format has is written as it is: 'Z' is a whole multiple of a power of two with at most 53 digits before it. -/
theorem nearest_val (neg : Bool) (mag c T Z : Nat) (hz : mag * 2 ^ c = Z) (h0 : 0 < mag) (hT : 2 ^ T ∣ Z) (hlt : Z < 2 ^ (53 + T)) (hov : T ≤ 2045) :
    ∃ w, w < 9218868437227405312 ∧ double.nearest neg mag (-1074 + (c : Int)) = double.word neg w ∧ V w = Z := by
  have hm : mag.log2 + c < 53 + T := by
    have h1 : 2 ^ mag.log2 ≤ mag := Nat.log2_self_le (by omega)
    have h2 : 2 ^ (mag.log2 + c) ≤ Z := by rw [Nat.pow_add, ← hz]; exact Nat.mul_le_mul_right _ h1
    exact (Nat.pow_lt_pow_iff_right (by decide)).1 (Nat.lt_of_le_of_lt h2 hlt)
  unfold Format.nearest
  rw [if_neg (by omega : ¬ mag = 0)]
  simp only [fb, lp, bn, ir]
  by_cases hA : mag.log2 + c < 52
  · have e1 : max (-1074 + (c : Int) + (mag.log2 : Int) - ((52 : Nat) : Int)) (-1074) = -1074 := by omega
    rw [e1]
    have e2 : (-1074 - (-1074 + (c : Int))).toNat = 0 := by omega
    have e3 : (-1074 + (c : Int) - -1074).toNat = c := by omega
    have e4 : ((-1074 : Int) - -1074).toNat = 0 := by omega
    rw [e2, e3, e4, Nat.shiftLeft_eq, hz]
    have hZ : 0 < Z := by rw [← hz]; exact Nat.mul_pos h0 (Nat.two_pow_pos _)
    rw [cut_exact neg Z 0 hZ (by simp)]
    have hZ2 : Z < 2 ^ 52 := by
      have h1 : mag < 2 ^ (mag.log2 + 1) := Nat.lt_log2_self
      have h2 : Z < 2 ^ (mag.log2 + 1) * 2 ^ c := by rw [← hz]; exact Nat.mul_lt_mul_of_pos_right h1 (Nat.two_pow_pos _)
      rw [← Nat.pow_add] at h2
      exact Nat.lt_of_lt_of_le h2 (Nat.pow_le_pow_right (by decide) (by omega))
    have hZ3 : Z < 4503599627370496 := hZ2
    clear hZ2 e1 e2 e3 e4 hT hlt hm
    have hmin : min (0 * 4503599627370496 + Z / 2 ^ 0) 9218868437227405312 = Z := by
      rw [Nat.pow_zero, Nat.div_one]; omega
    refine ⟨Z, by omega, by rw [hmin], ?_⟩
    have h2 : Z / 4503599627370496 - 1 = 0 := by omega
    unfold V M X; rw [if_pos hZ3, h2, Nat.pow_zero, Nat.mul_one]
  · have e1 : max (-1074 + (c : Int) + (mag.log2 : Int) - ((52 : Nat) : Int)) (-1074) = -1074 + (c : Int) + (mag.log2 : Int) - 52 := by omega
    rw [e1]
    have e2 : (-1074 + (c : Int) + (mag.log2 : Int) - 52 - (-1074 + (c : Int))).toNat = mag.log2 - 52 := by omega
    have e3 : (-1074 + (c : Int) - (-1074 + (c : Int) + (mag.log2 : Int) - 52)).toNat = 52 - mag.log2 := by omega
    have e4 : (-1074 + (c : Int) + (mag.log2 : Int) - 52 - -1074).toNat = c + mag.log2 - 52 := by omega
    rw [e2, e3, e4, Nat.shiftLeft_eq]
    have hl := Nat.log2_self_le (n := mag) (by omega)
    have hu := @Nat.lt_log2_self mag
    -- what is kept
    obtain ⟨K, hK1, hK2, hK3, hK4⟩ : ∃ K, Toward.even.cut neg (mag * 2 ^ (52 - mag.log2)) (mag.log2 - 52) = K ∧ 2 ^ 52 ≤ K ∧ K < 2 ^ 53 ∧ K * 2 ^ (c + mag.log2 - 52) = Z := by
      by_cases h52 : mag.log2 ≤ 52
      · rw [show mag.log2 - 52 = 0 by omega, cut_exact neg _ 0 (Nat.mul_pos h0 (Nat.two_pow_pos _)) (by simp)]
        refine ⟨mag * 2 ^ (52 - mag.log2), by simp, ?_, ?_, ?_⟩
        · calc 2 ^ 52 = 2 ^ mag.log2 * 2 ^ (52 - mag.log2) := by rw [← Nat.pow_add]; congr 1; omega
            _ ≤ _ := Nat.mul_le_mul_right _ hl
        · calc mag * 2 ^ (52 - mag.log2) < 2 ^ (mag.log2 + 1) * 2 ^ (52 - mag.log2) := Nat.mul_lt_mul_of_pos_right hu (Nat.two_pow_pos _)
            _ = 2 ^ 53 := by rw [← Nat.pow_add]; congr 1; omega
        · rw [Nat.mul_assoc, ← Nat.pow_add, ← hz]; congr 2; omega
      · rw [show 52 - mag.log2 = 0 by omega]
        simp only [Nat.pow_zero, Nat.mul_one]
        have hdv : 2 ^ (mag.log2 - 52) ∣ mag := by
          have h1 : 2 ^ (mag.log2 - 52 + c) ∣ mag * 2 ^ c := by
            rw [hz]; exact Nat.dvd_trans (Nat.pow_dvd_pow 2 (by omega)) hT
          rw [Nat.pow_add] at h1
          exact Nat.dvd_of_mul_dvd_mul_right (Nat.two_pow_pos c) h1
        rw [cut_exact neg mag _ h0 hdv]
        obtain ⟨q, hq⟩ := hdv
        have hp := Nat.two_pow_pos (mag.log2 - 52)
        have hdq : mag / 2 ^ (mag.log2 - 52) = q := Nat.div_eq_of_eq_mul_right hp hq
        rw [hdq]
        refine ⟨q, rfl, ?_, ?_, ?_⟩
        · have : 2 ^ (mag.log2 - 52) * 2 ^ 52 ≤ 2 ^ (mag.log2 - 52) * q := by
            rw [← hq, ← Nat.pow_add, show mag.log2 - 52 + 52 = mag.log2 by omega]; exact hl
          exact Nat.le_of_mul_le_mul_left this hp
        · have : 2 ^ (mag.log2 - 52) * q < 2 ^ (mag.log2 - 52) * 2 ^ 53 := by
            rw [← hq, ← Nat.pow_add, show mag.log2 - 52 + 53 = mag.log2 + 1 by omega]; exact hu
          exact Nat.lt_of_mul_lt_mul_left this
        · rw [show c + mag.log2 - 52 = (mag.log2 - 52) + c by omega, Nat.pow_add, ← Nat.mul_assoc, Nat.mul_comm q, ← hq, hz]
    rw [hK1]
    have hE : c + mag.log2 - 52 ≤ 2045 := by omega
    clear hK1 hlt hT hm e1 e2 e3 e4 hz hl hu hov
    generalize c + mag.log2 - 52 = E at *
    have hK2' : 4503599627370496 ≤ K := hK2
    have hK3' : K < 9007199254740992 := hK3
    clear hK2 hK3
    have hmin : min (E * 4503599627370496 + K) 9218868437227405312 = E * 4503599627370496 + K := by omega
    refine ⟨E * 4503599627370496 + K, by omega, by rw [hmin], ?_⟩
    have h1 : ¬ (E * 4503599627370496 + K < 4503599627370496) := by omega
    have h2 : (E * 4503599627370496 + K) / 4503599627370496 - 1 = E := by omega
    have h3 : 4503599627370496 + (E * 4503599627370496 + K) % 4503599627370496 = K := by omega
    unfold V M X
    rw [if_neg h1, h2, h3, hK4]
end Go.Proofs.Qxb6608663a.Fl
