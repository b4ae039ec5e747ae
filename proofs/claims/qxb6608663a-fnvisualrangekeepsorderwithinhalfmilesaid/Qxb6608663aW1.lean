import Derived.Test.Qxb6608663aRows
import Derived.Test.Qxb6608663aFn
import Derived.WalkKit
import Derived.WalkSpells
import Derived.WalkLawsBesides
import Derived.RowKit3
import Derived.Laws.BitsAllLaws
namespace Go.Proofs.Qxb6608663a
open Go.RowKit

theorem x10 : Extern.findNext Try.f10 = none := by kernel_rfl
theorem x11 : Extern.findNext Try.f11 = none := by kernel_rfl
theorem x12 : Extern.findNext Try.f12 = none := by kernel_rfl
theorem y10 : Extern.find Try.f10 = some Extern.MathFloatBits.float64bits := by kernel_rfl
theorem y11 : Extern.find Try.f11 = some Extern.MathFloatBits.float64frombits := by kernel_rfl
theorem y12 : Extern.find Try.f12 = some (Extern.MathDim.pick "math.archMin" true .lt) := by kernel_rfl

theorem bits_run (x : Nat) (w : World) : (callFunc 10 #[.float .f64 x]).run Try.prog w = .ok (.value (.int .u64 x)) w := by
  rw [run_callFunc_extern Try.func10 (by kernel_rfl) (by kernel_rfl) x10 y10]
  rfl
theorem from_run (n : Int) (w : World) : (callFunc 11 #[.int .u64 n]).run Try.prog w = .ok (.value (.float .f64 n.toNat)) w := by
  rw [run_callFunc_extern Try.func11 (by kernel_rfl) (by kernel_rfl) x11 y11]
  rfl
/-- The lesser of x and 2147483647. -/
def mn (x : Nat) : Nat := if x < 4746794007244308480 then x else 4746794007244308480
theorem cmp_lt {a b : Nat} (h : a < b) : compare a b = .lt := by
  simp only [compare, compareOfLessAndEq]; rw [if_pos h]
theorem cmp_ge {a b : Nat} (h : ¬ a < b) : (compare a b == .lt) = false := by
  simp only [compare, compareOfLessAndEq]; rw [if_neg h]; split <;> rfl
theorem order_f64 (a b : Nat) (ha : a ≤ 9218868437227405312) (hb : b < 9218868437227405312) : FloatKind.f64.format.order a b = some (compare a b) := Fl.order_any a b ha hb
theorem min_run (x : Nat) (hx : x ≤ 9218868437227405312) (w : World) : (callFunc 12 #[.float .f64 x, .float .f64 4746794007244308480]).run Try.prog w = .ok (.value (.float .f64 (mn x))) w := by
  rw [run_callFunc_extern Try.func12 (by kernel_rfl) (by kernel_rfl) x12 y12]
  have ho : (FloatKind.f64.decode x).order (FloatKind.f64.decode 4746794007244308480) = some (compare x 4746794007244308480) := order_f64 x _ hx (by decide)
  have hn : (FloatKind.f64.decode x).isNaN = false ∧ (FloatKind.f64.decode x == Ieee.Datum.infinity true) = false := by
    by_cases h : x = 9218868437227405312
    · subst h; exact ⟨rfl, rfl⟩
    · have e : FloatKind.f64.decode x = _ := Fl.read_fin x (by omega)
      rw [e]; exact ⟨rfl, rfl⟩
  have h2 : (FloatKind.f64.decode 4746794007244308480 == Ieee.Datum.infinity true) = false := by rfl
  have h3 : (FloatKind.f64.decode 4746794007244308480).isNaN = false := by rfl
  have h4 : (FloatKind.f64.decode 4746794007244308480).isZero = false := by rfl
  have hp : Extern.MathDim.pick "math.archMin" true .lt #[.float .f64 x, .float .f64 4746794007244308480] =
      pure (.float .f64 (if FloatKind.f64.decode x == .infinity true || FloatKind.f64.decode 4746794007244308480 == .infinity true then FloatKind.f64.encode (.infinity true)
      else if (FloatKind.f64.decode x).isNaN || (FloatKind.f64.decode 4746794007244308480).isNaN then 0x7FF8000000000001
      else if (FloatKind.f64.decode x).isZero && (FloatKind.f64.decode 4746794007244308480).isZero then (if (FloatKind.f64.decode x).neg == true then x else 4746794007244308480)
      else if (FloatKind.f64.decode x).order (FloatKind.f64.decode 4746794007244308480) == some .lt then x else 4746794007244308480)) := rfl
  rw [hp]
  simp only [ho, hn.1, hn.2, h2, h3, h4, Bool.or_false, Bool.and_false, Bool.false_eq_true, if_false]
  unfold mn
  by_cases h : x < 4746794007244308480
  · rw [cmp_lt h]; simp [h]
  · have := cmp_ge h
    simp [h, this]

theorem min_walk (x : Nat) (hx : x ≤ 9218868437227405312) (w : World) :
    Calls Try.prog 9 #[.float .f64 x, .float .f64 4746794007244308480] w fun e w' => e = .returned (.float .f64 (mn x)) ∧ w' = w := by
  have hr := min_run x hx
  go_enter Try.func9, Try.ntmps9
  go_wp2
  go_ret
  exact ⟨rfl, rfl⟩


theorem ret_float {k : FloatKind} {a b : Nat} (h : a = b) : Ending.returned (.float k a) = .returned (.float k b) := by rw [h]
theorem exp_bits (x : Nat) (hx : x < 9223372036854775808) : bits .and .u64 ((x : Int) / 4503599627370496) 2047 = ((x / 4503599627370496 : Nat) : Int) := by
  rw [show ((x : Int) / 4503599627370496) = ((x / 4503599627370496 : Nat) : Int) by omega, show (2047 : Int) = ((2047 : Nat) : Int) from rfl,
    u64_and_nat _ _ (by omega) (by decide), nat_mask11]
  omega
theorem half_shift (k : Nat) (h : k ≤ 30) : (2251799813685248 / 2 ^ k : Int) = ((2 ^ (51 - k) : Nat) : Int) ∧ (4503599627370495 / 2 ^ k : Int) = ((2 ^ (52 - k) - 1 : Nat) : Int) ∧ 2 ^ (52 - k) ≤ 4503599627370496 ∧ 2 ^ (51 - k) ≤ 2251799813685248 ∧ 0 < 2 ^ (52 - k) := by
  have : k = 0 ∨ k = 1 ∨ k = 2 ∨ k = 3 ∨ k = 4 ∨ k = 5 ∨ k = 6 ∨ k = 7 ∨ k = 8 ∨ k = 9 ∨ k = 10 ∨ k = 11 ∨ k = 12 ∨ k = 13 ∨ k = 14 ∨ k = 15 ∨ k = 16 ∨ k = 17 ∨ k = 18 ∨ k = 19 ∨ k = 20 ∨ k = 21 ∨ k = 22 ∨ k = 23 ∨ k = 24 ∨ k = 25 ∨ k = 26 ∨ k = 27 ∨ k = 28 ∨ k = 29 ∨ k = 30 := by omega
  rcases this with h | h | h | h | h | h | h | h | h | h | h | h | h | h | h | h | h | h | h | h | h | h | h | h | h | h | h | h | h | h | h <;> subst h <;> decide
theorem clear_bits (x k : Nat) (hx : x < 9223372036854775808) (h : k ≤ 30) :
    (bits .andNot .u64 (IntKind.u64.wrap ((x : Int) + 2251799813685248 / 2 ^ k)) (4503599627370495 / 2 ^ k)).toNat = (x + 2 ^ (51 - k)) / 2 ^ (52 - k) * 2 ^ (52 - k) := by
  obtain ⟨e1, e2, e3, e4, e5⟩ := half_shift k h
  have hm := nat_midmask 64 (52 - k) (x + 2 ^ (51 - k)) (by omega)
  rw [e1, e2, IntKind.wrap_u64]
  generalize 2 ^ (52 - k) = p at *
  generalize 2 ^ (51 - k) = q at *
  have e6 : ((x : Int) + (q : Int)) % 18446744073709551616 = ((x + q : Nat) : Int) := by omega
  rw [e6, u64_andNot_nat _ _ (by omega) (by omega), Int.toNat_natCast]
  have e7 : 18446744073709551615 - (p - 1) = 2 ^ 64 - p := by omega
  have e8 : (x + q) % 2 ^ 64 = x + q := by omega
  rw [e7, hm, e8]
theorem sign_bits (x : Nat) (hx : x < 9223372036854775808) : bits .and .u64 (x : Int) 9223372036854775808 = 0 := by
  rw [show (9223372036854775808 : Int) = ((9223372036854775808 : Nat) : Int) from rfl, u64_and_nat _ _ (by omega) (by decide)]
  have := nat_midmask 64 63 x (by decide)
  have e : x &&& 9223372036854775808 = 0 := by
    rw [show 9223372036854775808 = 2 ^ 64 - 2 ^ 63 from rfl, this]
    omega
  rw [e]; rfl

set_option maxRecDepth 100000 in
theorem round_big (x k : Nat) (hk : x / 4503599627370496 = 1023 + k) (hk' : k ≤ 30) (w : World) :
    Calls Try.prog 8 #[.float .f64 x] w fun e w' => e = .returned (.float .f64 (Fl.rnd x)) ∧ w' = w := by
  have b1 := bits_run
  have b2 := from_run
  have b3 : bits .and .u64 ((x : Int) / 4503599627370496) 2047 = 1023 + (k : Int) := by rw [exp_bits x (by omega), hk]; omega
  have HR : Hid (Fl.rnd x = (bits .andNot .u64 (IntKind.u64.wrap ((x : Int) + 2251799813685248 / 2 ^ k)) (4503599627370495 / 2 ^ k)).toNat) := by
    rw [clear_bits x k (by omega) hk']
    unfold Fl.rnd
    rw [if_neg (by omega), if_neg (by omega), show x / 4503599627370496 - 1023 = k by omega]; exact rfl
  clear hk
  go_enter Try.func8, Try.ntmps8
  go_wp2
  go_ret
  exact ⟨ret_float HR.out.symm, rfl⟩
theorem bits_or_one : bits .or .u64 0 4607182418800017408 = 4607182418800017408 := by decide +kernel
set_option maxRecDepth 100000 in
theorem round_mid (x : Nat) (h1 : 4602678819172646912 ≤ x) (h2 : x < 4607182418800017408) (w : World) :
    Calls Try.prog 8 #[.float .f64 x] w fun e w' => e = .returned (.float .f64 (Fl.rnd x)) ∧ w' = w := by
  have b1 := bits_run
  have b2 := from_run
  have b3 : bits .and .u64 ((x : Int) / 4503599627370496) 2047 = 1022 := by rw [exp_bits x (by omega)]; omega
  have b4 := sign_bits x (by omega)
  have b5 := bits_or_one
  have HR : Hid (Fl.rnd x = 4607182418800017408) := by
    unfold Fl.rnd
    rw [if_neg (by omega), if_pos (by omega)]; exact rfl
  clear h1 h2
  go_enter Try.func8, Try.ntmps8
  go_wp2
  go_ret
  exact ⟨by rw [HR.out]; rfl, rfl⟩
set_option maxRecDepth 100000 in
theorem round_small (x : Nat) (h1 : x < 4602678819172646912) (w : World) :
    Calls Try.prog 8 #[.float .f64 x] w fun e w' => e = .returned (.float .f64 (Fl.rnd x)) ∧ w' = w := by
  have b1 := bits_run
  have b2 := from_run
  obtain ⟨k, hk, hk'⟩ : ∃ k : Nat, bits .and .u64 ((x : Int) / 4503599627370496) 2047 = k ∧ k < 1022 := ⟨x / 4503599627370496, exp_bits x (by omega), by omega⟩
  have b4 := sign_bits x (by omega)
  have b5 : ((k : Int) == 1022) = false := by simp; omega
  have HR : Hid (Fl.rnd x = 0) := by
    unfold Fl.rnd
    rw [if_pos (by omega)]; exact rfl
  clear h1
  go_enter Try.func8, Try.ntmps8
  go_wp2
  go_ret
  exact ⟨by rw [HR.out]; rfl, rfl⟩
theorem round_any (x : Nat) (hx : x ≤ 4746794007244308480) (w : World) :
    Calls Try.prog 8 #[.float .f64 x] w fun e w' => e = .returned (.float .f64 (Fl.rnd x)) ∧ w' = w := by
  by_cases h1 : x < 4602678819172646912
  · exact round_small x h1 w
  · by_cases h2 : x < 4607182418800017408
    · exact round_mid x (by omega) h2 w
    · exact round_big x (x / 4503599627370496 - 1023) (by omega) (by omega) w

/-- What the program's 'visualRange' gives. -/
def vr (x : Nat) : Nat := Fl.R (mn x)
theorem mn_le (x : Nat) : mn x ≤ 4746794007244308480 := by unfold mn; split <;> omega
theorem conv_run (x : Nat) (w : World) : (convert 22 3 (.float .f64 (Fl.rnd (mn x)))).run Try.prog w = .ok (.int .i64 (vr x : Int)) w := by
  refine run_convert_float_int w 22 3 .f64 .i64 _ _ (by rw [Try.underlying22]; rfl) Try.underlying3 ?_
  have h := Fl.toInt_rnd (mn x) (mn_le x)
  have h' : (FloatKind.f64.decode (Fl.rnd (mn x))).toInt .zero = some (vr x : Int) := h
  have hr : (vr x : Nat) ≤ 2147483647 := Fl.R_le _ (mn_le x)
  unfold floatToIntVal
  rw [h']
  simp only [IntKind.min, IntKind.max, IntKind.signed, IntKind.bits]
  rw [if_pos ⟨by omega, by omega⟩]
theorem vr_walk (x : Nat) (hx : x ≤ 9218868437227405312) (w : World) :
    Calls Try.prog 7 #[.float .f64 x] w fun e w' => e = .returned (.int .i64 (vr x : Int)) ∧ w' = w := by
  have hc := conv_run x
  go_enter Try.func7, Try.ntmps7
  go_wp2_with (first | (go_at_call 9; refine (min_walk x hx _).mono ?_; rintro e w' ⟨rfl, rfl⟩) | (go_at_call 8; refine (round_any (mn x) (mn_le x) _).mono ?_; rintro e w' ⟨rfl, rfl⟩))
  go_ret
  exact ⟨rfl, rfl⟩
theorem zvr_walk (x : Nat) (hx : x ≤ 9218868437227405312) (w : World) :
    Calls Try.prog 5 #[.float .f64 x] w fun e w' => e = .returned (.int .i64 (vr x : Int)) ∧ w' = w := by
  go_enter Try.func5, Try.ntmps5
  go_wp2_with (go_at_call 7; refine (vr_walk x hx _).mono ?_; rintro e w' ⟨rfl, rfl⟩)
  go_ret
  exact ⟨rfl, rfl⟩
end Go.Proofs.Qxb6608663a
