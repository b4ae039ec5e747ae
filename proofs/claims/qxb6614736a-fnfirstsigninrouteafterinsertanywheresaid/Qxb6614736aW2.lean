import Derived.Test.Qxb6614736aW1
namespace Go.Proofs.Qxb6614736a
open Go.RowKit
set_option linter.unusedVariables false

theorem IsF.uniq {m : Nat} {p : Nat → Bool} {r s : Int} (a : IsF m p r) (b : IsF m p s) : r = s := by
  rcases a with ⟨rfl, ha⟩ | ⟨K, hK, rfl, h1, h2⟩
  · rcases b with ⟨rfl, _⟩ | ⟨L, hL, rfl, g1, _⟩
    · rfl
    · rw [ha L hL] at g1; cases g1
  · rcases b with ⟨rfl, hb⟩ | ⟨L, hL, rfl, g1, g2⟩
    · rw [hb K hK] at h1; cases h1
    · rcases Nat.lt_trichotomy K L with h | h | h
      · rw [g2 K h] at h1; cases h1
      · rw [h]
      · rw [h2 L h] at g1; cases g1

theorem bytesA_any (w : World) (a : Option Addr) (l c : Nat) (k : Int) (h : l ≤ maxLen) :
    Calls Try.prog 13 #[.slice a l c, .int .i64 k] w fun e w' => (∃ b, e = .returned (.bool b)) ∧ w' = w := by
  unfold maxLen at *
  go_enter Try.func13, Try.ntmps13
  go_wp2
  all_goals (go_ret; exact ⟨⟨_, rfl⟩, rfl⟩)
theorem bytesB_any (w : World) (a : Option Addr) (l c : Nat) (k : Int) (b : Bool) (h : l ≤ maxLen) :
    Calls Try.prog 16 #[.slice a l c, .int .i64 k, .bool b] w fun e w' => (∃ b, e = .returned (.bool b)) ∧ w' = w := by
  unfold maxLen at *
  go_enter Try.func16, Try.ntmps16
  go_wp2
  all_goals (go_ret; exact ⟨⟨_, rfl⟩, rfl⟩)

/-- zzSomePrivate where all are public. -/
theorem some_no (w : World) (a : Option Addr) (m c : Nat) (p : Nat → Bool) (hS : Sl w a m p) (hm : m ≤ 65537) (hp : ∀ i, i < m → p i = true) :
    Calls Try.prog 10 #[.slice a m c] w fun e w' => e = .returned (.bool false) ∧ w' = w := by
  have HS := hide hS
  have HP := hide hp
  clear hS hp
  go_enter Try.func10, Try.ntmps10
  go_wp2
  go_loop [3] (fun i => ∃ k : Nat, k ≤ m ∧ i = .int .i64 k) (fun i => m - (intOf i).toNat)
  case atStart => exact ⟨0, Nat.zero_le _, rfl⟩
  case round =>
    obtain ⟨k, hk, rfl⟩ := hrel
    by_cases hkm : k < m
    · obtain ⟨b, o, rfl, q⟩ := HS.out k hkm
      rw [HP.out k hkm] at q
      have i0 : (0 : Int) ≤ (k : Int) := by omega
      have i1 : (k : Int) < (m : Int) := by omega
      go_wp2
      go_round
      case rel => exact ⟨k + 1, by omega, by go_num⟩
      case measure => simp [intOf]; omega
    · go_wp2
      go_ret
      exact ⟨rfl, rfl⟩

set_option maxRecDepth 100000 in
theorem isfirst_no (w : World) (a : Option Addr) (m c : Nat) (p : Nat → Bool) (hS : Sl w a m p) (hm : m ≤ 65537) (hp : ∀ i, i < m → p i = true) :
    Calls Try.prog 15 #[.slice a m c, .int .i64 (-1)] w fun e w' => e = .returned (.bool true) ∧ w' = w := by
  have HC := hide (some_no w a m c p hS hm hp)
  have i0 : ¬ (m : Int) ≤ -1 := by omega
  clear hS hp
  go_enter Try.func15, Try.ntmps15
  go_wp2_with (go_at_call 10; refine (HC.out).mono ?_; rintro e w' ⟨rfl, rfl⟩)
  go_ret
  exact ⟨rfl, rfl⟩

set_option maxRecDepth 100000 in
set_option maxHeartbeats 800000 in
theorem isfirst_yes (w : World) (a : Option Addr) (m c : Nat) (p : Nat → Bool) (hS : Sl w a m p) (hm : m ≤ 65537) (K : Nat) (hK : K < m) (h0 : p K = false) (h1 : ∀ i, i < K → p i = true) :
    Calls Try.prog 15 #[.slice a m c, .int .i64 (K : Int)] w fun e w' => e = .returned (.bool true) ∧ w' = w := by
  obtain ⟨b, o, rfl, q⟩ := hS K hK
  rw [h0] at q
  have HS := hide hS
  have HP := hide h1
  clear hS h1 h0
  have i0 : (0 : Int) ≤ (K : Int) := by omega
  have i1 : (K : Int) < (m : Int) := by omega
  have i2 : ¬ (K : Int) < -1 := by omega
  have i3 : ((K : Int) == -1) = false := by simp
  go_enter Try.func15, Try.ntmps15
  go_wp2
  go_loop [5] (fun i => ∃ k : Nat, k ≤ K ∧ i = .int .i64 k) (fun i => K - (intOf i).toNat)
  case atStart => exact ⟨0, Nat.zero_le _, rfl⟩
  case round =>
    obtain ⟨k, hk, rfl⟩ := hrel
    by_cases hkK : k < K
    · obtain ⟨b', o', e', q'⟩ := HS.out k (by omega)
      cases e'
      rw [HP.out k hkK] at q'
      have j0 : (0 : Int) ≤ (k : Int) := by omega
      have j1 : (k : Int) < (m : Int) := by omega
      go_wp2
      go_round
      case rel => exact ⟨k + 1, by omega, by go_num⟩
      case measure => simp [intOf]; omega
    · go_wp2
      go_ret
      exact ⟨rfl, rfl⟩

theorem isfirst_any (w : World) (a : Option Addr) (m c : Nat) (p : Nat → Bool) (hS : Sl w a m p) (hm : m ≤ 65537) (r : Int) (hr : IsF m p r) :
    Calls Try.prog 15 #[.slice a m c, .int .i64 r] w fun e w' => e = .returned (.bool true) ∧ w' = w := by
  rcases hr with ⟨rfl, h⟩ | ⟨K, hK, rfl, h0, h1⟩
  · exact isfirst_no w a m c p hS hm h
  · exact isfirst_yes w a m c p hS hm K hK h0 h1

/-- The least index of a false from k on. -/
def FromF (m k : Nat) (p : Nat → Bool) (r : Int) : Prop := (r = -1 ∧ ∀ i, k ≤ i → i < m → p i = true) ∨ ∃ K : Nat, k ≤ K ∧ K < m ∧ r = (K : Int) ∧ p K = false ∧ ∀ i, k ≤ i → i < K → p i = true

set_option maxRecDepth 100000 in
set_option maxHeartbeats 800000 in
theorem back_any (w : World) (a : Option Addr) (m c : Nat) (p : Nat → Bool) (hS : Sl w a m p) (hm : m ≤ 65537) :
    Calls Try.prog 17 #[.slice a m c] w fun e w' => (∃ r, IsF m p r ∧ e = .returned (.int .i64 r)) ∧ w' = w := by
  have HS := hide hS
  clear hS
  go_enter Try.func17, Try.ntmps17
  go_wp2
  go_loop [3, 4] (fun s i => ∃ (k : Nat) (r : Int), k ≤ m ∧ i = .int .i64 ((k : Int) - 1) ∧ s = .int .i64 r ∧ FromF m k p r) (fun _ i => (intOf i + 1).toNat)
  case atStart => exact ⟨m, -1, Nat.le_refl _, rfl, rfl, Or.inl ⟨rfl, fun i h1 h2 => by omega⟩⟩
  case round =>
    obtain ⟨k, r, hk, rfl, rfl, hF⟩ := hrel
    have HF := hide hF
    clear hF
    by_cases hk0 : k = 0
    · subst hk0
      go_wp2
      go_ret
      refine ⟨⟨r, ?_, rfl⟩, rfl⟩
      rcases HF.out with ⟨h1, h2⟩ | ⟨K, _, h2, h3, h4, h5⟩
      · exact Or.inl ⟨h1, fun i hi => h2 i (Nat.zero_le _) hi⟩
      · exact Or.inr ⟨K, h2, h3, h4, fun i hi => h5 i (Nat.zero_le _) hi⟩
    · obtain ⟨j, rfl⟩ : ∃ j, k = j + 1 := ⟨k - 1, by omega⟩
      obtain ⟨b, o, rfl, q⟩ := HS.out j (by omega)
      have j0 : (0 : Int) ≤ (j : Int) := by omega
      have j1 : (j : Int) < (m : Int) := by omega
      generalize hb : p j = x at *
      have HX := hide hb
      clear hb
      cases x with
      | true =>
        go_wp2
        go_round
        case rel =>
          refine ⟨j, r, by omega, by go_num, rfl, ?_⟩
          rcases HF.out with ⟨h1, h2⟩ | ⟨K, h1, h2, h3, h4, h5⟩
          · exact Or.inl ⟨h1, fun i g1 g2 => by
              if h : i = j then rw [h]; exact HX.out else exact h2 i (by omega) g2⟩
          · exact Or.inr ⟨K, by omega, h2, h3, h4, fun i g1 g2 => by
              if h : i = j then rw [h]; exact HX.out else exact h5 i (by omega) g2⟩
        case measure => simp [intOf]
      | false =>
        go_wp2
        go_round
        case rel => exact ⟨j, (j : Int), by omega, by go_num, by go_num, Or.inr ⟨j, Nat.le_refl _, by omega, rfl, HX.out, fun i g1 g2 => by omega⟩⟩
        case measure => simp [intOf]
end Go.Proofs.Qxb6614736a
