import Derived.Test.Qxb6608940aW5
namespace Go.Proofs.Qxb6608940a
open Go.RowKit
set_option linter.unusedVariables false

set_option maxRecDepth 100000 in
set_option maxHeartbeats 1600000 in
theorem bytes1_any (w : World) (a0 a1 a2 a3 a4 : Option Addr) (l0 l1 l2 l3 l4 c0 c1 c2 c3 c4 : Nat) (x y z u : Int)
    (h0 : l0 ≤ maxLen) (h1 : l1 ≤ maxLen) (h2 : l2 ≤ maxLen) (h3 : l3 ≤ maxLen) (h4 : l4 ≤ maxLen) :
    Calls Try.prog 16 #[.slice a0 l0 c0, .slice a1 l1 c1, .slice a2 l2 c2, .slice a3 l3 c3, .slice a4 l4 c4, .int .u64 x, .int .u64 y, .int .u64 z, .int .u64 u] w fun e w' => (∃ b, e = .returned (.bool b)) ∧ w' = w := by
  unfold maxLen at *
  go_enter Try.func16, Try.ntmps16
  go_wp2
  all_goals (go_ret; exact ⟨⟨_, rfl⟩, rfl⟩)

set_option maxRecDepth 100000 in
set_option maxHeartbeats 1600000 in
theorem bytes2_any (w : World) (a0 a1 a2 a3 a4 : Option Addr) (l0 l1 l2 l3 l4 c0 c1 c2 c3 c4 : Nat) (x y z : Int)
    (h0 : l0 ≤ maxLen) (h1 : l1 ≤ maxLen) (h2 : l2 ≤ maxLen) (h3 : l3 ≤ maxLen) (h4 : l4 ≤ maxLen) :
    Calls Try.prog 21 #[.slice a0 l0 c0, .slice a1 l1 c1, .slice a2 l2 c2, .slice a3 l3 c3, .slice a4 l4 c4, .int .u64 x, .int .u64 y, .int .u64 z] w fun e w' => (∃ b, e = .returned (.bool b)) ∧ w' = w := by
  unfold maxLen at *
  go_enter Try.func21, Try.ntmps21
  go_wp2
  all_goals (go_ret; exact ⟨⟨_, rfl⟩, rfl⟩)

theorem drawn3 (w : World) (a b c : Nat) : ∃ j, ((w.drewN a).drewN b).drewN c = w.drewN j := ⟨_, by rw [World.drewN_drewN, World.drewN_drewN]⟩
/-- What zzStreamOK holds to. -/
structure Ok (m : Nat) (nx ed : Int) (st en : Nat → Int) : Prop where
  le : nx ≤ ed
  z : m = 0 → nx = ed
  pos : ∀ i, i < m → st i < en i
  seq : ∀ i, 0 < i → i < m → st i = en (i - 1)
  fst : 0 < m → st 0 ≤ nx
  lst : 0 < m → ed = en (m - 1)

/-- A bool comes back; true only where P holds. -/
def BoolIf (P : Prop) (e : Ending) : Prop := ∃ b, e = .returned (.bool b) ∧ (b = true → P)

set_option maxRecDepth 100000 in
set_option maxHeartbeats 1600000 in
theorem ok_loop (w : World) (m : Nat) (nx ed : Int) (st en : Nat → Int) (a0 a1 a2 a3 a4 : Option Addr) (c0 c1 c2 c3 c4 : Nat)
    (h0 : Sl w a0 m fun i => .int .u64 (st i)) (h1 : Sl w a1 m fun i => .int .u64 (en i)) (hm : m ≤ 32768) (hpos : 0 < m) (hle : nx ≤ ed) :
    Calls Try.prog 17 #[.slice a0 m c0, .slice a1 m c1, .slice a2 m c2, .slice a3 m c3, .slice a4 m c4, .int .u64 nx, .int .u64 ed] w fun e w' =>
      BoolIf (Ok m nx ed st en) e ∧ ∃ n, w' = w.drewN n := by
  have H0 := hide h0
  have H1 := hide h1
  clear h0 h1
  have hm0 : ((m : Int) == 0) = false := by simp; omega
  go_enter Try.func17, Try.ntmps17
  go_wp2
  go_loopw [16] (fun i wr => ∃ k n : Nat, k ≤ m ∧ i = .int .i64 k ∧ (∀ i, i < k → st i < en i) ∧ (∀ i, 0 < i → i < k → st i = en (i - 1)) ∧ wr = w.drewN n) (fun i _ => m - (intOf i).toNat)
  case atStart => exact ⟨0, 0, Nat.zero_le _, rfl, fun i hi => absurd hi (Nat.not_lt_zero _), fun i _ hi => absurd hi (Nat.not_lt_zero _), rfl⟩
  case round =>
    obtain ⟨k, n, hk, rfl, hp, hs, rfl⟩ := hrel
    have HP := hide hp
    have HS := hide hs
    clear hp hs
    by_cases hkm : k < m
    · obtain ⟨p0, o0, rfl, q0⟩ := H0.out k hkm
      obtain ⟨p1, o1, rfl, q1⟩ := H1.out k hkm
      have i0 : (0 : Int) ≤ (k : Int) := by omega
      have i1 : (k : Int) < (m : Int) := by omega
      by_cases hle : en k ≤ st k
      · go_wp2
        go_quiet (fail)
        go_wp2
        go_ret
        exact ⟨⟨false, rfl, fun h => by cases h⟩, _, World.drewN_drewN _ _ _⟩
      · by_cases hk0 : k = 0
        · subst hk0
          simp only [Nat.add_zero] at q0 q1
          have i2 : (0 : Int) < (m : Int) := by omega
          clear i0 i1
          go_wp2
          go_quiet (fail)
          go_wp2
          go_quiet (fail)
          go_wp2
          go_roundw
          case rel => exact ⟨1, _, by omega, by go_num, fun i hi => by obtain rfl : i = 0 := by omega
                                                                       omega, fun i h1 h2 => by omega, rfl⟩
          case measure => simp [intOf]; omega
        · obtain ⟨j, rfl⟩ : ∃ j, k = j + 1 := ⟨k - 1, by omega⟩
          obtain ⟨p1', o1', e1, q1'⟩ := H1.out j (by omega)
          cases e1
          have i2 : (0 : Int) ≤ (j : Int) + 1 := by omega
          have i3 : (j : Int) + 1 < (m : Int) := by omega
          have i4 : (0 : Int) ≤ (j : Int) := by omega
          have i5 : (j : Int) < (m : Int) := by omega
          clear i0 i1
          by_cases heq : st (j + 1) = en j
          · have HE := hide heq
            have b1 : (st (j + 1) != en j) = false := by simp [heq]
            clear heq
            go_wp2
            go_quiet (fail)
            go_wp2
            go_quiet (fail)
            go_wp2
            go_roundw
            case rel => exact ⟨j + 2, _, by omega, by go_num, fun i hi => by
                                if h : i < j + 1 then exact HP.out i h else obtain rfl : i = j + 1 := by omega
                                                                            omega, fun i h1 h2 => by
                                if h : i < j + 1 then exact HS.out i h1 h else obtain rfl : i = j + 1 := by omega
                                                                               exact HE.out, rfl⟩
            case measure => simp [intOf]; omega
          · have b1 : (st (j + 1) != en j) = true := by simpa using heq
            clear heq
            go_wp2
            go_quiet (fail)
            go_wp2
            go_quiet (fail)
            go_wp2
            go_ret
            exact ⟨⟨false, rfl, fun h => by cases h⟩, drawn3 _ _ _ _⟩
    · obtain ⟨M, rfl⟩ : ∃ M, m = M + 1 := ⟨m - 1, by omega⟩
      obtain ⟨p0, o0, rfl, q0⟩ := H0.out 0 hpos
      obtain ⟨p1, o1, rfl, q1⟩ := H1.out M (by omega)
      simp only [Nat.add_zero] at q0
      obtain rfl : k = M + 1 := by omega
      have i4 : (0 : Int) ≤ (M : Int) := by omega
      have i5 : (M : Int) < (M : Int) + 1 := by omega
      have i6 : (0 : Int) < (M : Int) + 1 := by omega
      by_cases hf : st 0 ≤ nx
      · have d0 : decide (st 0 ≤ nx) = true := by simpa using hf
        go_wp2
        go_ret
        exact ⟨⟨_, rfl, fun h => ⟨hle, fun h0 => by omega, HP.out, fun i h1 h2 => HS.out i h1 h2, fun _ => hf, fun _ => by simpa using h⟩⟩, _, rfl⟩
      · have d0 : decide (st 0 ≤ nx) = false := by simpa using hf
        go_wp2
        go_ret
        exact ⟨⟨false, rfl, fun h => by cases h⟩, _, rfl⟩
set_option maxRecDepth 100000 in
theorem ok_ne1 (w : World) (l0 l1 l2 l3 l4 : Nat) (nx ed : Int) (a0 a1 a2 a3 a4 : Option Addr) (c0 c1 c2 c3 c4 : Nat)  (b1 : ((l1 : Int) != (l0 : Int)) = true) :
    Calls Try.prog 17 #[.slice a0 l0 c0, .slice a1 l1 c1, .slice a2 l2 c2, .slice a3 l3 c3, .slice a4 l4 c4, .int .u64 nx, .int .u64 ed] w fun e w' => e = .returned (.bool false) ∧ w' = w := by
  go_enter Try.func17, Try.ntmps17
  go_wp2
  go_ret
  exact ⟨rfl, rfl⟩
set_option maxRecDepth 100000 in
theorem ok_ne2 (w : World) (l0 l1 l2 l3 l4 : Nat) (nx ed : Int) (a0 a1 a2 a3 a4 : Option Addr) (c0 c1 c2 c3 c4 : Nat) (b1 : ((l1 : Int) != (l0 : Int)) = false) (b2 : ((l2 : Int) != (l0 : Int)) = true) :
    Calls Try.prog 17 #[.slice a0 l0 c0, .slice a1 l1 c1, .slice a2 l2 c2, .slice a3 l3 c3, .slice a4 l4 c4, .int .u64 nx, .int .u64 ed] w fun e w' => e = .returned (.bool false) ∧ w' = w := by
  go_enter Try.func17, Try.ntmps17
  go_wp2
  go_ret
  exact ⟨rfl, rfl⟩
set_option maxRecDepth 100000 in
theorem ok_ne3 (w : World) (l0 l1 l2 l3 l4 : Nat) (nx ed : Int) (a0 a1 a2 a3 a4 : Option Addr) (c0 c1 c2 c3 c4 : Nat) (b1 : ((l1 : Int) != (l0 : Int)) = false) (b2 : ((l2 : Int) != (l0 : Int)) = false) (b3 : ((l3 : Int) != (l0 : Int)) = true) :
    Calls Try.prog 17 #[.slice a0 l0 c0, .slice a1 l1 c1, .slice a2 l2 c2, .slice a3 l3 c3, .slice a4 l4 c4, .int .u64 nx, .int .u64 ed] w fun e w' => e = .returned (.bool false) ∧ w' = w := by
  go_enter Try.func17, Try.ntmps17
  go_wp2
  go_ret
  exact ⟨rfl, rfl⟩
set_option maxRecDepth 100000 in
theorem ok_ne4 (w : World) (l0 l1 l2 l3 l4 : Nat) (nx ed : Int) (a0 a1 a2 a3 a4 : Option Addr) (c0 c1 c2 c3 c4 : Nat) (b1 : ((l1 : Int) != (l0 : Int)) = false) (b2 : ((l2 : Int) != (l0 : Int)) = false) (b3 : ((l3 : Int) != (l0 : Int)) = false) (b4 : ((l4 : Int) != (l0 : Int)) = true) :
    Calls Try.prog 17 #[.slice a0 l0 c0, .slice a1 l1 c1, .slice a2 l2 c2, .slice a3 l3 c3, .slice a4 l4 c4, .int .u64 nx, .int .u64 ed] w fun e w' => e = .returned (.bool false) ∧ w' = w := by
  go_enter Try.func17, Try.ntmps17
  go_wp2
  go_ret
  exact ⟨rfl, rfl⟩
set_option maxRecDepth 100000 in
theorem ok_gt (w : World) (m : Nat) (nx ed : Int) (a0 a1 a2 a3 a4 : Option Addr) (c0 c1 c2 c3 c4 : Nat) (h : ed < nx) :
    Calls Try.prog 17 #[.slice a0 m c0, .slice a1 m c1, .slice a2 m c2, .slice a3 m c3, .slice a4 m c4, .int .u64 nx, .int .u64 ed] w fun e w' => e = .returned (.bool false) ∧ w' = w := by
  go_enter Try.func17, Try.ntmps17
  go_wp2
  go_ret
  exact ⟨rfl, rfl⟩
set_option maxRecDepth 100000 in
theorem ok_zero (w : World) (nx ed : Int) (a0 a1 a2 a3 a4 : Option Addr) (c0 c1 c2 c3 c4 : Nat) (h : nx ≤ ed) :
    Calls Try.prog 17 #[.slice a0 0 c0, .slice a1 0 c1, .slice a2 0 c2, .slice a3 0 c3, .slice a4 0 c4, .int .u64 nx, .int .u64 ed] w fun e w' => e = .returned (.bool (nx == ed)) ∧ w' = w := by
  go_enter Try.func17, Try.ntmps17
  go_wp2
  go_ret
  exact ⟨rfl, rfl⟩

theorem ok_any (w : World) (l0 l1 l2 l3 l4 : Nat) (nx ed : Int) (st en : Nat → Int) (a0 a1 a2 a3 a4 : Option Addr) (c0 c1 c2 c3 c4 : Nat)
    (h0 : Sl w a0 l0 fun i => .int .u64 (st i)) (h1 : Sl w a1 l1 fun i => .int .u64 (en i)) (hm : l0 ≤ 32768) :
    Calls Try.prog 17 #[.slice a0 l0 c0, .slice a1 l1 c1, .slice a2 l2 c2, .slice a3 l3 c3, .slice a4 l4 c4, .int .u64 nx, .int .u64 ed] w fun e w' =>
      BoolIf (l1 = l0 ∧ l2 = l0 ∧ l3 = l0 ∧ l4 = l0 ∧ Ok l0 nx ed st en) e ∧ ∃ n, w' = w.drewN n := by
  have no : ∀ P : Prop, BoolIf P (.returned (.bool false)) := fun P => ⟨false, rfl, fun h => by cases h⟩
  by_cases e1 : l1 = l0
  · subst e1
    have b1 : ((l1 : Int) != (l1 : Int)) = false := by simp
    by_cases e2 : l2 = l1
    · subst e2
      by_cases e3 : l3 = l2
      · subst e3
        by_cases e4 : l4 = l3
        · subst e4
          by_cases hg : ed < nx
          · refine (ok_gt w l4 nx ed a0 a1 a2 a3 a4 c0 c1 c2 c3 c4 hg).mono ?_
            rintro e w' ⟨rfl, rfl⟩; exact ⟨no _, 0, rfl⟩
          · by_cases hz : l4 = 0
            · subst hz
              refine (ok_zero w nx ed a0 a1 a2 a3 a4 c0 c1 c2 c3 c4 (by omega)).mono ?_
              rintro e w' ⟨rfl, rfl⟩
              refine ⟨⟨_, rfl, fun h => ⟨rfl, rfl, rfl, rfl, by omega, fun _ => by simpa using h, fun i hi => absurd hi (Nat.not_lt_zero _), fun i _ hi => absurd hi (Nat.not_lt_zero _), fun hi => absurd hi (Nat.not_lt_zero _), fun hi => absurd hi (Nat.not_lt_zero _)⟩⟩, 0, rfl⟩
            · refine (ok_loop w l4 nx ed st en a0 a1 a2 a3 a4 c0 c1 c2 c3 c4 h0 h1 hm (by omega) (by omega)).mono ?_
              rintro e w' ⟨⟨b, rfl, hb⟩, hn⟩
              exact ⟨⟨b, rfl, fun h => ⟨rfl, rfl, rfl, rfl, hb h⟩⟩, hn⟩
        · refine (ok_ne4 w l3 l3 l3 l3 l4 nx ed a0 a1 a2 a3 a4 c0 c1 c2 c3 c4 (by simp) (by simp) (by simp) (by simp; omega)).mono ?_
          rintro e w' ⟨rfl, rfl⟩; exact ⟨no _, 0, rfl⟩
      · refine (ok_ne3 w l2 l2 l2 l3 l4 nx ed a0 a1 a2 a3 a4 c0 c1 c2 c3 c4 (by simp) (by simp) (by simp; omega)).mono ?_
        rintro e w' ⟨rfl, rfl⟩; exact ⟨no _, 0, rfl⟩
    · refine (ok_ne2 w l1 l1 l2 l3 l4 nx ed a0 a1 a2 a3 a4 c0 c1 c2 c3 c4 (by simp) (by simp; omega)).mono ?_
      rintro e w' ⟨rfl, rfl⟩; exact ⟨no _, 0, rfl⟩
  · refine (ok_ne1 w l0 l1 l2 l3 l4 nx ed a0 a1 a2 a3 a4 c0 c1 c2 c3 c4 (by simp; omega)).mono ?_
    rintro e w' ⟨rfl, rfl⟩; exact ⟨no _, 0, rfl⟩

set_option maxRecDepth 100000 in
set_option maxHeartbeats 1600000 in
/-- zzRecordAtNext. -/
theorem scan_any (w : World) (m : Nat) (nx : Int) (en : Nat → Int) (a1 : Option Addr) (c1 : Nat) (h1 : Sl w a1 m fun i => .int .u64 (en i)) (hm : m ≤ 32768) :
    Calls Try.prog 20 #[.slice a1 m c1, .int .u64 nx] w fun e w' => (∃ K : Nat, First m en nx K ∧ e = .returned (.int .i64 (K : Int))) ∧ ∃ n, w' = w.drewN n := by
  have H1 := hide h1
  clear h1
  go_enter Try.func20, Try.ntmps20
  go_wp2
  go_loopw [5] (fun i wr => ∃ k n : Nat, k ≤ m ∧ i = .int .i64 k ∧ (∀ t, t < k → en t ≤ nx) ∧ wr = w.drewN n) (fun i _ => m - (intOf i).toNat)
  case atStart => exact ⟨0, 0, Nat.zero_le _, rfl, fun t ht => absurd ht (Nat.not_lt_zero _), rfl⟩
  case round =>
    obtain ⟨k, n, hk, rfl, hp, rfl⟩ := hrel
    have HP := hide hp
    clear hp
    by_cases hkm : k < m
    · obtain ⟨p1, o1, rfl, q1⟩ := H1.out k hkm
      have i0 : (0 : Int) ≤ (k : Int) := by omega
      have i1 : (k : Int) < (m : Int) := by omega
      have d0 : decide ((k : Int) < (m : Int)) = true := by simpa using i1
      by_cases hle : en k ≤ nx
      · have d1 : decide (en k ≤ nx) = true := by simpa using hle
        go_wp2
        go_roundw
        case rel => exact ⟨k + 1, n, by omega, by go_num, fun t ht => by
                          if h : t < k then exact HP.out t h else obtain rfl : t = k := by omega
                                                                  exact hle, rfl⟩
        case measure => simp [intOf]; omega
      · have d1 : decide (en k ≤ nx) = false := by simpa using hle
        go_wp2
        go_ret
        exact ⟨⟨k, ⟨by omega, HP.out, fun _ => by omega⟩, rfl⟩, n, rfl⟩
    · have d0 : decide ((k : Int) < (m : Int)) = false := by simp; omega
      go_wp2
      go_ret
      exact ⟨⟨k, ⟨by omega, HP.out, fun h => absurd h hkm⟩, rfl⟩, n, rfl⟩
end Go.Proofs.Qxb6608940a
