import Derived.Test.Qxb6608940aRows
import Derived.WalkKit
import Derived.WalkSpells
import Derived.WalkLawsBesides
import Derived.RowKit3
import Derived.Laws.BitsAllLaws
namespace Go.Proofs.Qxb6608940a
open Go.RowKit

theorem b_and0 : bits .and .u64 0 1073741823 = 0 := by decide +kernel
theorem b_andNot0 : bits .andNot .u64 0 1073741823 = 0 := by decide +kernel
theorem b_or0 (r : Int) (h0 : 0 ≤ r) (h1 : r < 1000000000) : bits .or .u64 0 r = r := by
  obtain ⟨n, rfl⟩ := Int.eq_ofNat_of_zero_le h0
  rw [show (0 : Int) = ((0 : Nat) : Int) from rfl, u64_or_nat 0 n (by decide) (by omega)]
  simp
theorem b_mono (r : Int) (h0 : 0 ≤ r) (h1 : r < 1000000000) : bits .and .u64 r 9223372036854775808 = 0 := by
  obtain ⟨n, rfl⟩ := Int.eq_ofNat_of_zero_le h0
  rw [show (9223372036854775808 : Int) = ((9223372036854775808 : Nat) : Int) from rfl, u64_and_nat _ _ (by omega) (by decide)]
  have := nat_midmask 64 63 n (by decide)
  have e : n &&& 9223372036854775808 = 0 := by
    rw [show 9223372036854775808 = 2 ^ 64 - 2 ^ 63 from rfl, this]
    omega
  rw [e]; rfl

/-- The cells of the time that lies d nanoseconds past the zero time. -/
def zt (d : Int) : Array Value := #[.int .u64 (d % 1000000000), .int .i64 (d / 1000000000), .pointer none]

set_option maxRecDepth 100000 in
set_option maxHeartbeats 800000 in
theorem add_pos (d q r : Int) (hq : d.tdiv 1000000000 = q) (hr : d.tmod 1000000000 = r) (q1 : -9223372037 ≤ q) (q2 : q ≤ 9223372036) (r1 : 0 ≤ r) (r2 : r < 1000000000) (w : World) :
    Calls Try.prog 24 #[.agg #[.int .u64 0, .int .i64 0, .pointer none], .int .i64 d] w fun e w' =>
      e = .returned (.agg #[.int .u64 r, .int .i64 q, .pointer none]) ∧ w' = (w.alloc (.cells #[.int .u64 r, .int .i64 q, .pointer none] 53)).alloc (.cells #[.int .u64 r, .int .i64 q, .pointer none] 53) := by
  have b1 := b_and0
  have b2 := b_andNot0
  have b3 := b_or0 r r1 r2
  have b4 := b_mono r r1 r2
  go_enter Try.func24, Try.ntmps24
  go_wp2
  go_end0
  go_wp2
  exact bodyPost_ret (v := .agg #[.int .u64 r, .int .i64 q, .pointer none]) (by simp [results, Try.results24, go_sem]) rfl ⟨rfl, rfl⟩
set_option maxRecDepth 100000 in
set_option maxHeartbeats 800000 in
theorem add_neg (d q r : Int) (hq : d.tdiv 1000000000 = q) (hr : d.tmod 1000000000 = r) (q1 : -9223372037 ≤ q) (q2 : q ≤ 9223372036) (r1 : r < 0) (r2 : -1000000000 < r) (w : World) :
    Calls Try.prog 24 #[.agg #[.int .u64 0, .int .i64 0, .pointer none], .int .i64 d] w fun e w' =>
      e = .returned (.agg #[.int .u64 (r + 1000000000), .int .i64 (q - 1), .pointer none]) ∧ w' = (w.alloc (.cells #[.int .u64 (r + 1000000000), .int .i64 (q - 1), .pointer none] 53)).alloc (.cells #[.int .u64 (r + 1000000000), .int .i64 (q - 1), .pointer none] 53) := by
  have b1 := b_and0
  have b2 := b_andNot0
  have b3 := b_or0 (r + 1000000000) (by omega) (by omega)
  have b4 := b_mono (r + 1000000000) (by omega) (by omega)
  go_enter Try.func24, Try.ntmps24
  go_wp2
  go_end0
  go_wp2
  exact bodyPost_ret (v := .agg #[.int .u64 (r + 1000000000), .int .i64 (q - 1), .pointer none]) (by simp [results, Try.results24, go_sem]) rfl ⟨rfl, rfl⟩
theorem add_any (d : Int) (h1 : -9223372036854775808 ≤ d) (h2 : d ≤ 9223372036854775807) (w : World) :
    Calls Try.prog 24 #[.agg #[.int .u64 0, .int .i64 0, .pointer none], .int .i64 d] w fun e w' =>
      e = .returned (.agg (zt d)) ∧ w' = (w.alloc (.cells (zt d) 53)).alloc (.cells (zt d) 53) := by
  have e1 : 1000000000 * d.tdiv 1000000000 + d.tmod 1000000000 = d := Int.mul_tdiv_add_tmod d 1000000000
  have e2 := Int.tmod_lt_of_pos d (b := 1000000000) (by decide)
  have e3 : -1000000000 < d.tmod 1000000000 := by
    have := Int.tmod_lt_of_pos (-d) (b := 1000000000) (by decide)
    rw [Int.neg_tmod] at this; omega
  have e4 : 0 ≤ d → 0 ≤ d.tmod 1000000000 := fun h => Int.tmod_nonneg _ h
  unfold zt
  by_cases h : 0 ≤ d.tmod 1000000000
  · have g1 : d % 1000000000 = d.tmod 1000000000 := by omega
    have g2 : d / 1000000000 = d.tdiv 1000000000 := by omega
    rw [g1, g2]
    exact add_pos d _ _ rfl rfl (by omega) (by omega) h e2 w
  · have g1 : d % 1000000000 = d.tmod 1000000000 + 1000000000 := by omega
    have g2 : d / 1000000000 = d.tdiv 1000000000 - 1 := by omega
    rw [g1, g2]
    exact add_neg d _ _ rfl rfl (by omega) (by omega) (by omega) e3 w

theorem zt_zero (d : Int) : ((d % 1000000000 == 0) && (d / 1000000000 == 0)) = (d == 0) := by
  rw [Bool.eq_iff_iff]; simp; omega

theorem iszero_any (d : Int) (w : World) :
    Calls Try.prog 43 #[.agg (zt d)] w fun e w' => e = .returned (.bool (d == 0)) ∧ w' = w.alloc (.cells (zt d) 53) := by
  unfold zt
  rw [← zt_zero d]
  rcases Bool.eq_false_or_eq_true (d % 1000000000 == 0) with h | h
  all_goals
    rw [h]
    go_enter Try.func43, Try.ntmps43
    go_wp2
    go_ret
    exact ⟨by simp, rfl⟩

/-- One record's cells in memory: block B, from offset o on. -/
structure RecAt (w : World) (B o : Nat) (st en d : Int) (on gv : Bool) : Prop where
  c0 : w.cell? ⟨B, o, none⟩ = some (.int .u64 st)
  c1 : w.cell? ⟨B, o + 1, none⟩ = some (.int .u64 en)
  c3 : w.cell? ⟨B, o + 3, none⟩ = some (.int .u64 (d % 1000000000))
  c4 : w.cell? ⟨B, o + 4, none⟩ = some (.int .i64 (d / 1000000000))
  c5 : w.cell? ⟨B, o + 5, none⟩ = some (.pointer none)
  c6 : w.cell? ⟨B, o + 6, none⟩ = some (.bool on)
  c7 : w.cell? ⟨B, o + 7, none⟩ = some (.bool gv)

theorem cell_new {w : World} {a : Addr} {v : Value} (O : Obj) (h : w.cell? a = some v) : (w.alloc O).cell? a = some v :=
  (World.cell?_alloc_lt _ _ _ (World.block_lt_of_cell? w a h)).trans h

theorem reliable_any (w : World) (B o : Nat) (st en d : Int) (on gv : Bool) (R : RecAt w B o st en d on gv) :
    Calls Try.prog 42 #[.pointer (some ⟨B, o, none⟩)] w fun e w' => e = .returned (.bool (d == 0 && !on)) ∧ w' = w.alloc (.cells (zt d) 53) := by
  obtain ⟨c0, c1, c3, c4, c5, c6, c7⟩ := R
  have c6' : (w.alloc (.cells (zt d) 53)).cell? ⟨B, o + 3 + 3, none⟩ = some (.bool on) := cell_new _ c6
  clear c0 c1 c7 c6
  rcases Bool.eq_false_or_eq_true (d == 0) with h | h
  all_goals
    rw [h]
    go_enter Try.func42, Try.ntmps42
    go_wp2_with (go_at_call 43; refine (iszero_any d _).mono ?_; rintro e w' ⟨rfl, rfl⟩)
    go_ret
    exact ⟨by simp, rfl⟩
end Go.Proofs.Qxb6608940a
