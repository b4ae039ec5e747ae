import Derived.Test.Qxb6614736aW2
namespace Go.Proofs.Qxb6614736a
open Go.RowKit
set_option linter.unusedVariables false

/-- The first of the whole out of the firsts of two parts. -/
theorem split_law {m k : Nat} (hk : k ≤ m) {p : Nat → Bool} {r ra rb : Int} (h : IsF m p r) (ha : IsF k p ra) (hb : IsF (m - k) (fun i => p (k + i)) rb) :
    r = (if 0 ≤ ra then ra else if 0 ≤ rb then (k : Int) + rb else -1) := by
  rcases ha with ⟨rfl, a1⟩ | ⟨K, a1, rfl, a2, a3⟩
  · rw [if_neg (by omega)]
    rcases hb with ⟨rfl, b1⟩ | ⟨L, b1, rfl, b2, b3⟩
    · rw [if_neg (by omega)]
      refine h.uniq (Or.inl ⟨rfl, fun i hi => ?_⟩)
      by_cases hik : i < k
      · exact a1 i hik
      · have : p (k + (i - k)) = true := b1 (i - k) (by omega)
        rwa [show k + (i - k) = i by omega] at this
    · rw [if_pos (by omega)]
      refine h.uniq (Or.inr ⟨k + L, by omega, by omega, b2, fun i hi => ?_⟩)
      by_cases hik : i < k
      · exact a1 i hik
      · have : p (k + (i - k)) = true := b3 (i - k) (by omega)
        rwa [show k + (i - k) = i by omega] at this
  · rw [if_pos (by omega)]
    exact h.uniq (Or.inr ⟨K, by omega, rfl, a2, a3⟩)
theorem IsF.range {m : Nat} {p : Nat → Bool} {r : Int} (h : IsF m p r) : -1 ≤ r ∧ r < (m : Int) ∨ r = -1 := by
  rcases h with ⟨rfl, _⟩ | ⟨K, h1, rfl, _, _⟩
  · right; rfl
  · left; omega

/-- A slice as the row reads it: nil without room, or an address. -/
def Shape (a : Option Addr) (m c : Nat) : Prop := m ≤ c ∧ (a = none → c = 0)

theorem Sl.upto {w : World} {a : Option Addr} {m : Nat} {p : Nat → Bool} (h : Sl w a m p) (n : Nat) (hn : n ≤ m) : Sl w a n p := fun i hi => h i (by omega)

theorem Sl.from {w : World} {a : Option Addr} {m : Nat} {p : Nat → Bool} (h : Sl w a m p) (n : Nat) : Sl w (a.map (fun x => x.add n)) (m - n) (fun i => p (n + i)) := fun i hi => by
  obtain ⟨b, o, rfl, q⟩ := h (n + i) (by omega)
  refine ⟨b, o + n, ?_, ?_⟩
  · simp [Addr.add]
  · rw [Nat.add_assoc]; exact q

set_option maxRecDepth 100000 in
set_option maxHeartbeats 1600000 in
theorem lawA (w : World) (a : Option Addr) (m c : Nat) (p : Nat → Bool) (k : Int) (hS : Sl w a m p) (hsh : Shape a m c) (hl : m ≤ maxLen) :
    Calls Try.prog 5 #[.slice a m c, .int .i64 k] w fun e w' => e = .returned (.bool true) ∧ Below w.heap.size w w' := by
  have HB := hide (bytesA_any w a m c k hl)
  have HS := hide hS
  unfold maxLen at hl
  clear hS
  go_enter Try.func5, Try.ntmps5
  go_wp2_with fail
  refine HB.out.mono ?_
  rintro e w' ⟨⟨b0, rfl⟩, rfl⟩
  clear HB
  cases b0 with
  | false =>
    go_wp2_with fail
    go_ret
    exact ⟨rfl, Below.refl _ _⟩
  | true =>
  by_cases k0 : ¬ m ≤ 65536
  · go_wp2_with fail
    go_ret
    exact ⟨rfl, Below.refl _ _⟩
  by_cases k1 : k < 0
  · go_wp2_with fail
    go_ret
    exact ⟨rfl, Below.refl _ _⟩
  by_cases k2 : (m : Int) < k
  · go_wp2_with fail
    go_ret
    exact ⟨rfl, Below.refl _ _⟩
  obtain ⟨n, rfl⟩ : ∃ n : Nat, k = (n : Int) := ⟨k.toNat, by omega⟩
  have hn : n ≤ m := by omega
  have hm : m ≤ 65536 := by omega
  have hmc := hsh.1
  have i0 : (0 : Int) ≤ (n : Int) := by omega
  have i1 : (n : Int) ≤ (m : Int) := by omega
  have i2 : (n : Int) ≤ (c : Int) := by omega
  clear k0 k1 k2 hl
  go_wp2_with fail
  refine (file_any _ a m c p HS.out (by omega)).mono ?_
  rintro e w1 ⟨S, B, rfl, F, g1⟩
  go_wp2_with fail
  refine (first_any _ S B m p F (by omega)).mono ?_
  rintro e w2 ⟨⟨r, hr, rfl⟩, g2⟩
  have G2 := hide (g1.trans (g2.mono g1.size))
  have HR := hide hr
  have HS2 := hide (HS.out.below G2.out)
  clear g1 g2 F hr
  go_wp2_with fail
  refine (file_any _ a n c p (HS2.out.upto n hn) (by omega)).mono ?_
  rintro e w3 ⟨S, B, rfl, F, g3⟩
  go_wp2_with fail
  refine (first_any _ S B n p F (by omega)).mono ?_
  rintro e w4 ⟨⟨ra, hra, rfl⟩, g4⟩
  have G3 := hide (G2.out.trans (g3.mono G2.out.size))
  have G4 := hide (G3.out.trans (g4.mono G3.out.size))
  have HRA := hide hra
  have HS4 := hide ((HS2.out.below g3).below g4)
  clear g3 g4 F hra G2 G3 HS2
  by_cases hcn : c = n
  · have HX : Hid (Sl w4 a (m - n) (fun i => p (n + i))) := hide fun i hi => absurd hi (by omega)
    go_wp2_with fail
    refine (file_any _ _ (m - n) _ (fun i => p (n + i)) HX.out (by omega)).mono ?_
    rintro e w5 ⟨S, B, rfl, F, g5⟩
    go_wp2_with fail
    refine (first_any _ S B (m - n) _ F (by omega)).mono ?_
    rintro e w6 ⟨⟨rb, hrb, rfl⟩, g6⟩
    have G5 := hide (G4.out.trans (g5.mono G4.out.size))
    have G6 := hide (G5.out.trans (g6.mono G5.out.size))
    have HS6 := hide ((HS4.out.below g5).below g6)
    have hrr := split_law hn HR.out HRA.out hrb
    have x1 : ra ≤ 65536 := by have := HRA.out.range; omega
    have x2 : rb ≤ 65536 := by have := hrb.range; omega
    clear g5 g6 F hrb G4 G5 HS4 HX
    by_cases p1 : 0 ≤ ra
    · rw [if_pos p1] at hrr
      subst hrr
      go_wp2_with (go_at_call 15; refine (isfirst_any _ a m _ p HS6.out (by omega) _ HR.out).mono ?_; rintro e w7 ⟨rfl, rfl⟩)
      go_ret
      exact ⟨rfl, G6.out⟩
    by_cases p2 : 0 ≤ rb
    · rw [if_neg p1, if_pos p2] at hrr
      subst hrr
      go_wp2_with (go_at_call 15; refine (isfirst_any _ a m _ p HS6.out (by omega) _ HR.out).mono ?_; rintro e w7 ⟨rfl, rfl⟩)
      go_ret
      exact ⟨rfl, G6.out⟩
    · rw [if_neg p1, if_neg p2] at hrr
      subst hrr
      go_wp2_with (go_at_call 15; refine (isfirst_any _ a m _ p HS6.out (by omega) _ HR.out).mono ?_; rintro e w7 ⟨rfl, rfl⟩)
      go_ret
      exact ⟨rfl, G6.out⟩
  · have HX := hide (HS4.out.from n)
    have hcn' : n < c := by omega
    go_wp2_with fail
    refine (file_any _ _ (m - n) _ (fun i => p (n + i)) HX.out (by omega)).mono ?_
    rintro e w5 ⟨S, B, rfl, F, g5⟩
    go_wp2_with fail
    refine (first_any _ S B (m - n) _ F (by omega)).mono ?_
    rintro e w6 ⟨⟨rb, hrb, rfl⟩, g6⟩
    have G5 := hide (G4.out.trans (g5.mono G4.out.size))
    have G6 := hide (G5.out.trans (g6.mono G5.out.size))
    have HS6 := hide ((HS4.out.below g5).below g6)
    have hrr := split_law hn HR.out HRA.out hrb
    have x1 : ra ≤ 65536 := by have := HRA.out.range; omega
    have x2 : rb ≤ 65536 := by have := hrb.range; omega
    clear g5 g6 F hrb G4 G5 HS4 HX
    by_cases p1 : 0 ≤ ra
    · rw [if_pos p1] at hrr
      subst hrr
      go_wp2_with (go_at_call 15; refine (isfirst_any _ a m _ p HS6.out (by omega) _ HR.out).mono ?_; rintro e w7 ⟨rfl, rfl⟩)
      go_ret
      exact ⟨rfl, G6.out⟩
    by_cases p2 : 0 ≤ rb
    · rw [if_neg p1, if_pos p2] at hrr
      subst hrr
      go_wp2_with (go_at_call 15; refine (isfirst_any _ a m _ p HS6.out (by omega) _ HR.out).mono ?_; rintro e w7 ⟨rfl, rfl⟩)
      go_ret
      exact ⟨rfl, G6.out⟩
    · rw [if_neg p1, if_neg p2] at hrr
      subst hrr
      go_wp2_with (go_at_call 15; refine (isfirst_any _ a m _ p HS6.out (by omega) _ HR.out).mono ?_; rintro e w7 ⟨rfl, rfl⟩)
      go_ret
      exact ⟨rfl, G6.out⟩
end Go.Proofs.Qxb6614736a
