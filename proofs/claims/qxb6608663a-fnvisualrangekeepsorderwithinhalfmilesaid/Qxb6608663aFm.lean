import Derived.Test.Qxb6608663aFl
namespace Go.Proofs.Qxb6608663a.Fl
open Ieee
set_option exponentiation.threshold 3000

/-- A half, in those units. -/
def H : Nat := 2 ^ 1073
theorem H_pos : 0 < H := Nat.two_pow_pos _
theorem H_at (a b : Nat) (h : a + b = 1073) : H = 2 ^ a * 2 ^ b := by unfold H; rw [← Nat.pow_add, h]
theorem H2_at (a b : Nat) (h : a + b = 1074) : 2 * H = 2 ^ a * 2 ^ b := by
  unfold H; rw [← Nat.pow_add, h, show (1074 : Nat) = 1073 + 1 from rfl, Nat.pow_succ 2 1073, Nat.mul_comm]

theorem V_norm (x e : Nat) (h : x / 4503599627370496 = e + 1) : V x = (4503599627370496 + x % 4503599627370496) * 2 ^ e := by
  have h1 : ¬ x < 4503599627370496 := by omega
  have h2 : x / 4503599627370496 - 1 = e := by omega
  unfold V M X
  rw [if_neg h1, h2]

theorem V_one : V 4607182418800017408 = 2 * H := by
  rw [V_norm _ 1022 (by decide), H2_at 52 1022 (by decide)]
theorem V_half : V 4602678819172646912 = H := by
  rw [V_norm _ 1021 (by decide), H_at 52 1021 (by decide)]

theorem V_split (a c : Nat) (h : c ≤ X a) : M a * 2 ^ (X a - c) * 2 ^ c = V a := by
  rw [Nat.mul_assoc, ← Nat.pow_add, show X a - c + c = X a by omega]; rfl

theorem place_l (a b : Nat) : (-1074 + (X a : Int) - min (-1074 + (X a : Int)) (-1074 + (X b : Int))).toNat = X a - min (X a) (X b) := by omega
theorem place_r (a b : Nat) : (-1074 + (X b : Int) - min (-1074 + (X a : Int)) (-1074 + (X b : Int))).toNat = X b - min (X a) (X b) := by omega
theorem place_m (a b : Nat) : min (-1074 + (X a : Int)) (-1074 + (X b : Int)) = -1074 + ((min (X a) (X b) : Nat) : Int) := by omega

theorem add_fin (a b : Nat) (ha : a < 9218868437227405312) (hb : b < 9218868437227405312) :
    ∃ mag, mag * 2 ^ min (X a) (X b) = V a + V b ∧ double.add a b = some (double.nearest false mag (-1074 + ((min (X a) (X b) : Nat) : Int))) := by
  refine ⟨M a * 2 ^ (X a - min (X a) (X b)) + M b * 2 ^ (X b - min (X a) (X b)), ?_, ?_⟩
  · rw [Nat.add_mul, V_split a _ (by omega), V_split b _ (by omega)]
  · unfold Format.add
    rw [read_fin a ha, read_fin b hb]
    simp only [Datum.sum, signed, Option.map_some, Format.write]
    rw [place_l, place_r, place_m]
    simp only [Bool.false_eq_true, if_false, Nat.shiftLeft_eq, Bool.and_false]
    rw [← Int.natCast_add, Int.natAbs_natCast]
    generalize M a * 2 ^ (X a - min (X a) (X b)) + M b * 2 ^ (X b - min (X a) (X b)) = p at *
    have e4 : (if (p : Int) = 0 then false else decide ((p : Int) < 0)) = false := by
      split
      · rfl
      · simp
    rw [e4]

theorem sub_fin (a b : Nat) (ha : a < 9218868437227405312) (h : b ≤ a) :
    ∃ mag, mag * 2 ^ min (X a) (X b) = V a - V b ∧ double.sub a b = some (double.nearest false mag (-1074 + ((min (X a) (X b) : Nat) : Int))) := by
  have hv := V_le.2 h
  have e1 := V_split a (min (X a) (X b)) (by omega)
  have e2 := V_split b (min (X a) (X b)) (by omega)
  refine ⟨M a * 2 ^ (X a - min (X a) (X b)) - M b * 2 ^ (X b - min (X a) (X b)), ?_, ?_⟩
  · rw [Nat.sub_mul, e1, e2]
  · have hle : M b * 2 ^ (X b - min (X a) (X b)) ≤ M a * 2 ^ (X a - min (X a) (X b)) := by
      refine Nat.le_of_mul_le_mul_right (c := 2 ^ min (X a) (X b)) ?_ (Nat.two_pow_pos _)
      rw [e1, e2]; exact hv
    unfold Format.sub
    rw [read_fin a ha, read_fin b (by omega)]
    simp only [Datum.opposite, Datum.sum, signed, Option.map_some, Format.write]
    rw [place_l, place_r, place_m]
    simp only [Bool.false_eq_true, if_false, Nat.shiftLeft_eq, Bool.false_and, Bool.not_false, if_true]
    generalize M a * 2 ^ (X a - min (X a) (X b)) = p at *
    generalize M b * 2 ^ (X b - min (X a) (X b)) = q at *
    have e3 : ((p : Int) + -(q : Int)).natAbs = p - q := by omega
    have e4 : (if (p : Int) + -(q : Int) = 0 then false else decide ((p : Int) + -(q : Int) < 0)) = false := by
      split
      · rfl
      · simp; omega
    rw [e3, e4]

theorem add_exact (a b T : Nat) (ha : a < 9218868437227405312) (hb : b < 9218868437227405312) (h0 : 0 < V a + V b) (hT : 2 ^ T ∣ V a + V b) (hlt : V a + V b < 2 ^ (53 + T)) (hov : T ≤ 2045) :
    ∃ w, w < 9218868437227405312 ∧ double.add a b = some w ∧ V w = V a + V b := by
  obtain ⟨mag, h1, h2⟩ := add_fin a b ha hb
  have hm : 0 < mag := by
    rcases Nat.eq_zero_or_pos mag with h | h
    · rw [h, Nat.zero_mul] at h1; omega
    · exact h
  obtain ⟨w, hw, h3, h4⟩ := nearest_val false mag _ T _ h1 hm hT hlt hov
  exact ⟨w, hw, by rw [h2, h3]; rfl, h4⟩

theorem sub_exact (a b T : Nat) (ha : a < 9218868437227405312) (h : b < a) (hT : 2 ^ T ∣ V a - V b) (hlt : V a - V b < 2 ^ (53 + T)) (hov : T ≤ 2045) :
    ∃ w, w < 9218868437227405312 ∧ double.sub a b = some w ∧ V w = V a - V b := by
  obtain ⟨mag, h1, h2⟩ := sub_fin a b ha (by omega)
  have hv := V_lt.2 h
  have hm : 0 < mag := by
    rcases Nat.eq_zero_or_pos mag with h | h
    · rw [h, Nat.zero_mul] at h1; omega
    · exact h
  obtain ⟨w, hw, h3, h4⟩ := nearest_val false mag _ T _ h1 hm hT hlt hov
  exact ⟨w, hw, by rw [h2, h3]; rfl, h4⟩

/-- A sum of 1 or more is written as 1 or more. -/
theorem nearest_ge_one (mag c : Nat) (hz : 2 * H ≤ mag * 2 ^ c) :
    4607182418800017408 ≤ double.nearest false mag (-1074 + (c : Int)) ∧ double.nearest false mag (-1074 + (c : Int)) ≤ 9218868437227405312 := by
  have hH := H_pos
  have h0 : 0 < mag := by
    rcases Nat.eq_zero_or_pos mag with h | h
    · rw [h, Nat.zero_mul] at hz; omega
    · exact h
  have hl := Nat.log2_self_le (n := mag) (by omega)
  have hu := @Nat.lt_log2_self mag
  have hm : 1074 ≤ mag.log2 + c := by
    have h1 : mag * 2 ^ c < 2 ^ (mag.log2 + 1) * 2 ^ c := Nat.mul_lt_mul_of_pos_right hu (Nat.two_pow_pos _)
    rw [← Nat.pow_add] at h1
    have h2 : 2 ^ 1074 < 2 ^ (mag.log2 + 1 + c) := by
      have := H2_at 1074 0 (by decide)
      rw [Nat.pow_zero, Nat.mul_one] at this
      rw [← this]; exact Nat.lt_of_le_of_lt hz h1
    have := (Nat.pow_lt_pow_iff_right (by decide)).1 h2
    omega
  unfold Format.nearest
  rw [if_neg (by omega : ¬ mag = 0)]
  simp only [fb, lp, bn, ir]
  have e1 : max (-1074 + (c : Int) + (mag.log2 : Int) - ((52 : Nat) : Int)) (-1074) = -1074 + (c : Int) + (mag.log2 : Int) - 52 := by omega
  rw [e1]
  have e2 : (-1074 + (c : Int) + (mag.log2 : Int) - 52 - (-1074 + (c : Int))).toNat = mag.log2 - 52 := by omega
  have e3 : (-1074 + (c : Int) - (-1074 + (c : Int) + (mag.log2 : Int) - 52)).toNat = 52 - mag.log2 := by omega
  have e4 : (-1074 + (c : Int) + (mag.log2 : Int) - 52 - -1074).toNat = c + mag.log2 - 52 := by omega
  rw [e2, e3, e4, Nat.shiftLeft_eq]
  have hK : 4503599627370496 ≤ Toward.even.cut false (mag * 2 ^ (52 - mag.log2)) (mag.log2 - 52) := by
    by_cases h52 : mag.log2 ≤ 52
    · rw [show mag.log2 - 52 = 0 by omega, cut_exact false _ 0 (Nat.mul_pos h0 (Nat.two_pow_pos _)) (by simp)]
      rw [Nat.pow_zero, Nat.div_one]
      calc 4503599627370496 = 2 ^ mag.log2 * 2 ^ (52 - mag.log2) := by rw [← Nat.pow_add, show mag.log2 + (52 - mag.log2) = 52 by omega]
        _ ≤ _ := Nat.mul_le_mul_right _ hl
    · rw [show 52 - mag.log2 = 0 by omega]
      simp only [Nat.pow_zero, Nat.mul_one]
      unfold Toward.cut
      rw [show min (mag.log2 - 52) (mag.log2 + 2) = mag.log2 - 52 by omega]
      simp only [Nat.shiftLeft_eq, Nat.one_mul]
      refine Nat.le_trans ?_ (Nat.le_add_right _ _)
      rw [Nat.le_div_iff_mul_le (Nat.two_pow_pos _)]
      calc 4503599627370496 * 2 ^ (mag.log2 - 52) = 2 ^ (52 + (mag.log2 - 52)) := by rw [Nat.pow_add]
        _ = 2 ^ mag.log2 := by rw [show 52 + (mag.log2 - 52) = mag.log2 by omega]
        _ ≤ mag := hl
  generalize Toward.even.cut false (mag * 2 ^ (52 - mag.log2)) (mag.log2 - 52) = K at *
  have hE : 1022 ≤ c + mag.log2 - 52 := by omega
  generalize c + mag.log2 - 52 = E at *
  unfold Format.word
  simp only [Bool.false_eq_true, if_false]
  clear hl hu hm hz h0 e1 e2 e3 e4
  omega
end Go.Proofs.Qxb6608663a.Fl
