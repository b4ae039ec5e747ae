import Derived.Test.Qxb6614736aW3
import Derived.Maps.AppendAt
namespace Go.Proofs.Qxb6614736a
open Go.RowKit
set_option linter.unusedVariables false

/-- The bools with one inserted at n. -/
def pq (n : Nat) (p : Nat → Bool) (b : Bool) (i : Nat) : Bool := if i < n then p i else if i = n then b else p (i - 1)
theorem pq_lo {n : Nat} (p : Nat → Bool) (b : Bool) {i : Nat} (h : i < n) : pq n p b i = p i := if_pos h
theorem pq_at (n : Nat) (p : Nat → Bool) (b : Bool) : pq n p b n = b := by
  unfold pq; rw [if_neg (Nat.lt_irrefl _), if_pos rfl]
theorem pq_hi {n : Nat} (p : Nat → Bool) (b : Bool) {i : Nat} (h : n < i) : pq n p b i = p (i - 1) := by
  unfold pq; rw [if_neg (by omega), if_neg (by omega)]

theorem insert_law {m n : Nat} (hn : n ≤ m) {p : Nat → Bool} (b : Bool) {r s : Int} (hr : IsF m p r) (hs : IsF (m + 1) (pq n p b) s) :
    s = (if b = true then (if (n : Int) ≤ r then r + 1 else r) else if r < 0 ∨ (n : Int) ≤ r then (n : Int) else r) := by
  refine hs.uniq ?_
  cases b with
  | true =>
    rw [if_pos rfl]
    rcases hr with ⟨rfl, h⟩ | ⟨K, h1, rfl, h2, h3⟩
    · rw [if_neg (by omega)]
      refine Or.inl ⟨rfl, fun i hi => ?_⟩
      rcases Nat.lt_trichotomy i n with g | g | g
      · rw [pq_lo _ _ g]; exact h i (by omega)
      · rw [g, pq_at]
      · rw [pq_hi _ _ g]; exact h _ (by omega)
    · by_cases hk : n ≤ K
      · rw [if_pos (by omega)]
        refine Or.inr ⟨K + 1, by omega, by omega, ?_, fun i hi => ?_⟩
        · rw [pq_hi _ _ (by omega)]; exact h2
        · rcases Nat.lt_trichotomy i n with g | g | g
          · rw [pq_lo _ _ g]; exact h3 i (by omega)
          · rw [g, pq_at]
          · rw [pq_hi _ _ g]; exact h3 _ (by omega)
      · rw [if_neg (by omega)]
        refine Or.inr ⟨K, by omega, rfl, ?_, fun i hi => ?_⟩
        · rw [pq_lo _ _ (by omega)]; exact h2
        · rw [pq_lo _ _ (by omega)]; exact h3 i hi
  | false =>
    rw [if_neg (by decide)]
    rcases hr with ⟨rfl, h⟩ | ⟨K, h1, rfl, h2, h3⟩
    · rw [if_pos (by omega)]
      refine Or.inr ⟨n, by omega, rfl, pq_at _ _ _, fun i hi => ?_⟩
      rw [pq_lo _ _ hi]; exact h i (by omega)
    · by_cases hk : n ≤ K
      · rw [if_pos (by omega)]
        refine Or.inr ⟨n, by omega, rfl, pq_at _ _ _, fun i hi => ?_⟩
        rw [pq_lo _ _ hi]; exact h3 i (by omega)
      · rw [if_neg (by omega)]
        refine Or.inr ⟨K, by omega, rfl, ?_, fun i hi => ?_⟩
        · rw [pq_lo _ _ (by omega)]; exact h2
        · rw [pq_lo _ _ (by omega)]; exact h3 i hi

/-- The cells of m bools. -/
def bl (m : Nat) (p : Nat → Bool) : List Value := (List.range m).map (fun i => Value.bool (p i))
theorem bl_len (m : Nat) (p : Nat → Bool) : (bl m p).length = m * 1 := by simp [bl]
theorem bl_at {m : Nat} (p : Nat → Bool) {i : Nat} (h : i < m) : (bl m p)[i]? = some (.bool (p i)) := by simp [bl, h]
theorem bl_one (m : Nat) (p : Nat → Bool) : ∀ u ∈ bl m p, u.oneCell' = true := by
  intro u hu
  obtain ⟨i, _, rfl⟩ := List.mem_map.1 hu
  rfl
theorem Sl.news {w : World} {a : Option Addr} {m : Nat} {p : Nat → Bool} (h : Sl w a m p) : ∀ ad, a = some ad → ∀ j u, (bl m p)[j]? = some u → w.cell? (ad.add j) = some u := by
  intro ad ha j u hu
  have hj : j < m := by
    have := (List.getElem?_eq_some_iff.1 hu).1
    rw [bl_len] at this; omega
  rw [bl_at p hj] at hu
  cases hu
  obtain ⟨b, o, e, q⟩ := h j hj
  rw [ha] at e
  cases e
  have e' : (⟨b, o, none⟩ : Addr).add j = ⟨b, o + j, none⟩ := by unfold Addr.add; split <;> simp_all
  rw [e']; exact q
theorem row_at {m n : Nat} (hn : n ≤ m) (p : Nat → Bool) (b : Bool) (i : Nat) (hi : i < m + 1) : (bl n p ++ [Value.bool b] ++ bl (m - n) (fun i => p (n + i)))[i]? = some (.bool (pq n p b i)) := by
  have hl : (bl n p).length = n := by rw [bl_len]; omega
  rcases Nat.lt_trichotomy i n with g | g | g
  · rw [List.append_assoc, List.getElem?_append_left (by omega), bl_at p g, pq_lo _ _ g]
  · subst g
    rw [List.append_assoc, List.getElem?_append_right (by omega), hl, pq_at, Nat.sub_self]; rfl
  · rw [List.getElem?_append_right (by simp [hl]; omega), pq_hi _ _ g]
    rw [show i - (bl n p ++ [Value.bool b]).length = i - n - 1 by simp [hl]; omega, bl_at _ (by omega)]
    rw [show n + (i - n - 1) = i - 1 by omega]
theorem row_at' {m n : Nat} (hn : n ≤ m) (p : Nat → Bool) (b : Bool) (i : Nat) (hi : i < m + 1) : (bl n p ++ Value.bool b :: bl (m - n) (fun i => p (n + i)))[i]? = some (.bool (pq n p b i)) := by
  rw [← row_at hn p b i hi, List.append_assoc]; rfl
theorem info4 : (Try.prog.info? 4).map (fun i => (i.zero, i.size, i.bytes)) = some (some (.bool false), 1, 1) := by kernel_rfl
theorem back_is (w : World) (a : Option Addr) (m c : Nat) (p : Nat → Bool) (hS : Sl w a m p) (hm : m ≤ 65537) (r : Int) (hr : IsF m p r) :
    Calls Try.prog 17 #[.slice a m c] w fun e w' => e = .returned (.int .i64 r) ∧ w' = w :=
  (back_any w a m c p hS hm).mono fun e w' ⟨⟨s, hs, he⟩, hw⟩ => ⟨by rw [he, hr.uniq hs], hw⟩

set_option maxRecDepth 100000 in
set_option maxHeartbeats 3200000 in
theorem lawB (w : World) (a : Option Addr) (m c : Nat) (p : Nat → Bool) (k : Int) (pub : Bool) (hS : Sl w a m p) (hsh : Shape a m c) (hl : m ≤ maxLen) :
    Calls Try.prog 6 #[.slice a m c, .int .i64 k, .bool pub] w fun e w' => e = .returned (.bool true) ∧ Below w.heap.size w w' := by
  have HB := hide (bytesB_any w a m c k pub hl)
  have HS := hide hS
  have HSH := hide hsh
  unfold maxLen at hl
  clear hS
  go_enter Try.func6, Try.ntmps6
  go_wp2_with fail
  refine HB.out.mono ?_
  rintro e w' ⟨⟨b0, rfl⟩, hw'⟩
  obtain rfl : w = w' := hw'.symm
  clear HB
  cases b0 with
  | false =>
    go_wp2_with fail
    go_ret
    exact ⟨rfl, Below.refl _ _⟩
  | true =>
  by_cases k0 : ¬ m ≤ 65536
  · go_wp2_with fail
    go_ret
    exact ⟨rfl, Below.refl _ _⟩
  by_cases k1 : k < 0
  · go_wp2_with fail
    go_ret
    exact ⟨rfl, Below.refl _ _⟩
  by_cases k2 : (m : Int) < k
  · go_wp2_with fail
    go_ret
    exact ⟨rfl, Below.refl _ _⟩
  obtain ⟨n, rfl⟩ : ∃ n : Nat, k = (n : Int) := ⟨k.toNat, by omega⟩
  have hn : n ≤ m := by omega
  have hm : m ≤ 65536 := by omega
  have hmc := hsh.1
  have i0 : (0 : Int) ≤ (n : Int) := by omega
  have i1 : (n : Int) ≤ (m : Int) := by omega
  have i2 : (n : Int) ≤ (c : Int) := by omega
  clear k0 k1 k2 hl hsh
  obtain ⟨i, hi, hz0, hz1, hz2⟩ := info_parts info4
  go_wp2_with (at_make; refine wpList_make_own _ rfl _ _ 22 rfl w.heap.size 4 i _ 1 Try.underlying22 hi hz0 hz1 _ _ _ (m + 1) rfl rfl (by omega) (by rw [hz2]; omega) (by unfold maxLen; omega) (Nat.le_refl _) ?_)
  intro w1 hown1 g1
  have K1 := hide ((Below.refl w.heap.size w).grown g1 (Nat.le_refl _) (fun _ h => by cases h))
  have HO1 := hide hown1
  have HS1 := hide (HS.out.below K1.out)
  clear hown1 g1
  go_wp2_with (at_builtin; refine wpList_append_fits_any _ rfl (.tmp 31) (.tmp 34) 22 rfl w.heap.size 4 i 1 Try.underlying22 hi hz1 w.heap.size 0 (m + 1) [] rfl HO1.out a n c (bl n p) rfl (bl_len _ _) (fun h => ⟨by have := HSH.out.2 h; omega, HSH.out.2 h⟩) (HS1.out.upto n hn).news (bl_one _ _) (by omega) ?_)
  intro w2 hown2 g2
  have K2 := hide (K1.out.grown g2 K1.out.size (fun _ h => by cases h; exact Nat.le_refl _))
  have HO2 := hide hown2
  clear hown2 g2 HO1 K1 HS1
  go_wp2_with (at_builtin; refine wpList_append_fits _ rfl (.tmp 36) (.tmp 38) 22 rfl w.heap.size 4 i 1 Try.underlying22 hi hz1 w.heap.size n (m + 1) (bl n p) rfl (HO2.out.alloc _) ⟨w2.heap.size, 0, none⟩ 1 1 [.bool pub] rfl rfl (cell_one_new _ _ _) (by intro u hu; cases List.mem_singleton.1 hu; rfl) (by omega) ?_)
  intro w3 hown3 g3
  have K3 := hide ((K2.out.alloc K2.out.size _).grown g3 (K2.out.alloc K2.out.size _).size (fun _ h => by cases h; exact Nat.le_refl _))
  have HO3 := hide hown3
  have HS3 := hide (HS.out.below K3.out)
  clear hown3 g3 HO2 K2
  by_cases hcn : c = n
  · have HX : Hid (Sl w3 a (m - n) (fun i => p (n + i))) := hide fun i hi => absurd hi (by omega)
    have HN : Hid (a = none → m - n = 0 ∧ 0 = 0) := hide fun h => ⟨by omega, rfl⟩
    go_wp2_with (at_builtin; refine wpList_append_fits_any _ rfl (.tmp 40) (.tmp 43) 22 rfl w.heap.size 4 i 1 Try.underlying22 hi hz1 w.heap.size (n + 1) (m + 1) (bl n p ++ [.bool pub]) rfl HO3.out a (m - n) 0 (bl (m - n) (fun i => p (n + i))) rfl (bl_len _ _) HN.out HX.out.news (bl_one _ _) (by omega) ?_)
    clear HX HN HS3
    intro w4 hown4 g4
    have e4 : n + 1 + (m - n) = m + 1 := by omega
    rw [e4] at hown4 ⊢
    have K4 := hide (K3.out.grown g4 K3.out.size (fun _ h => by cases h; exact Nat.le_refl _))
    have HQ : Hid (Sl w4 (some ⟨w.heap.size, 0, none⟩) (m + 1) (pq n p pub)) := hide fun i hi =>
      ⟨w.heap.size, 0, rfl, by rw [Nat.zero_add]; exact (hown4.cellAt i (by omega)).trans (row_at' hn p pub i hi)⟩
    have HS4 := hide (HS.out.below K4.out)
    clear hown4 g4 HO3 K3 e4 hi hz0 hz1 hz2
    go_wp2_with fail
    refine (file_any _ a m _ p HS4.out (by omega)).mono ?_
    rintro e w5 ⟨S, B, rfl, F, g5⟩
    go_wp2_with fail
    refine (first_any _ S B m p F (by omega)).mono ?_
    rintro e w6 ⟨⟨r, hr, rfl⟩, g6⟩
    have K5 := hide (K4.out.trans (g5.mono K4.out.size))
    have K6 := hide (K5.out.trans (g6.mono K5.out.size))
    have HQ6 := hide ((HQ.out.below g5).below g6)
    have HR := hide hr
    clear g5 g6 F hr K4 K5 HQ HS4
    go_wp2_with fail
    refine (file_any _ _ (m + 1) _ (pq n p pub) HQ6.out (by omega)).mono ?_
    rintro e w7 ⟨S, B, rfl, F, g7⟩
    go_wp2_with fail
    refine (first_any _ S B (m + 1) _ F (by omega)).mono ?_
    rintro e w8 ⟨⟨s, hs, rfl⟩, g8⟩
    have K7 := hide (K6.out.trans (g7.mono K6.out.size))
    have K8 := hide (K7.out.trans (g8.mono K7.out.size))
    have HB := hide (fun c' => back_is _ a m c' p (HS.out.below K8.out) (by omega) r HR.out)
    have hss := insert_law hn pub HR.out hs
    have x1 : r ≤ 65536 := by have := HR.out.range; omega
    have x3 : -1 ≤ r := by have := HR.out.range; omega
    clear g7 g8 F hs K6 K7 HQ6 HS
    cases pub with
    | true =>
      by_cases p1 : (n : Int) ≤ r
      · rw [if_pos rfl, if_pos p1] at hss
        subst hss
        go_wp2_with (go_at_call 17; refine (HB.out _).mono ?_; rintro e w9 ⟨rfl, rfl⟩)
        go_ret
        exact ⟨rfl, K8.out⟩
      · rw [if_pos rfl, if_neg p1] at hss
        subst hss
        go_wp2_with (go_at_call 17; refine (HB.out _).mono ?_; rintro e w9 ⟨rfl, rfl⟩)
        go_ret
        exact ⟨rfl, K8.out⟩
    | false =>
      by_cases p1 : r < 0
      · rw [if_neg (by decide), if_pos (Or.inl p1)] at hss
        subst hss
        go_wp2_with (go_at_call 17; refine (HB.out _).mono ?_; rintro e w9 ⟨rfl, rfl⟩)
        go_ret
        exact ⟨rfl, K8.out⟩
      by_cases p2 : (n : Int) ≤ r
      · rw [if_neg (by decide), if_pos (Or.inr p2)] at hss
        subst hss
        go_wp2_with (go_at_call 17; refine (HB.out _).mono ?_; rintro e w9 ⟨rfl, rfl⟩)
        go_ret
        exact ⟨rfl, K8.out⟩
      · rw [if_neg (by decide), if_neg (by omega)] at hss
        subst hss
        go_wp2_with (go_at_call 17; refine (HB.out _).mono ?_; rintro e w9 ⟨rfl, rfl⟩)
        go_ret
        exact ⟨rfl, K8.out⟩
  · have HX := hide (HS3.out.from n)
    have HN : Hid (a.map (fun x => x.add n) = none → m - n = 0 ∧ c - n = 0) := hide fun h => by
      have := HSH.out.2 (Option.map_eq_none_iff.1 h)
      omega
    have hcn' : n < c := by omega
    go_wp2_with (at_builtin; refine wpList_append_fits_any _ rfl (.tmp 40) (.tmp 43) 22 rfl w.heap.size 4 i 1 Try.underlying22 hi hz1 w.heap.size (n + 1) (m + 1) (bl n p ++ [.bool pub]) rfl HO3.out (a.map (fun x => x.add n)) (m - n) (c - n) (bl (m - n) (fun i => p (n + i))) rfl (bl_len _ _) HN.out HX.out.news (bl_one _ _) (by omega) ?_)
    clear HX HN HS3
    intro w4 hown4 g4
    have e4 : n + 1 + (m - n) = m + 1 := by omega
    rw [e4] at hown4 ⊢
    have K4 := hide (K3.out.grown g4 K3.out.size (fun _ h => by cases h; exact Nat.le_refl _))
    have HQ : Hid (Sl w4 (some ⟨w.heap.size, 0, none⟩) (m + 1) (pq n p pub)) := hide fun i hi =>
      ⟨w.heap.size, 0, rfl, by rw [Nat.zero_add]; exact (hown4.cellAt i (by omega)).trans (row_at' hn p pub i hi)⟩
    have HS4 := hide (HS.out.below K4.out)
    clear hown4 g4 HO3 K3 e4 hi hz0 hz1 hz2
    go_wp2_with fail
    refine (file_any _ a m _ p HS4.out (by omega)).mono ?_
    rintro e w5 ⟨S, B, rfl, F, g5⟩
    go_wp2_with fail
    refine (first_any _ S B m p F (by omega)).mono ?_
    rintro e w6 ⟨⟨r, hr, rfl⟩, g6⟩
    have K5 := hide (K4.out.trans (g5.mono K4.out.size))
    have K6 := hide (K5.out.trans (g6.mono K5.out.size))
    have HQ6 := hide ((HQ.out.below g5).below g6)
    have HR := hide hr
    clear g5 g6 F hr K4 K5 HQ HS4
    go_wp2_with fail
    refine (file_any _ _ (m + 1) _ (pq n p pub) HQ6.out (by omega)).mono ?_
    rintro e w7 ⟨S, B, rfl, F, g7⟩
    go_wp2_with fail
    refine (first_any _ S B (m + 1) _ F (by omega)).mono ?_
    rintro e w8 ⟨⟨s, hs, rfl⟩, g8⟩
    have K7 := hide (K6.out.trans (g7.mono K6.out.size))
    have K8 := hide (K7.out.trans (g8.mono K7.out.size))
    have HB := hide (fun c' => back_is _ a m c' p (HS.out.below K8.out) (by omega) r HR.out)
    have hss := insert_law hn pub HR.out hs
    have x1 : r ≤ 65536 := by have := HR.out.range; omega
    have x3 : -1 ≤ r := by have := HR.out.range; omega
    clear g7 g8 F hs K6 K7 HQ6 HS
    cases pub with
    | true =>
      by_cases p1 : (n : Int) ≤ r
      · rw [if_pos rfl, if_pos p1] at hss
        subst hss
        go_wp2_with (go_at_call 17; refine (HB.out _).mono ?_; rintro e w9 ⟨rfl, rfl⟩)
        go_ret
        exact ⟨rfl, K8.out⟩
      · rw [if_pos rfl, if_neg p1] at hss
        subst hss
        go_wp2_with (go_at_call 17; refine (HB.out _).mono ?_; rintro e w9 ⟨rfl, rfl⟩)
        go_ret
        exact ⟨rfl, K8.out⟩
    | false =>
      by_cases p1 : r < 0
      · rw [if_neg (by decide), if_pos (Or.inl p1)] at hss
        subst hss
        go_wp2_with (go_at_call 17; refine (HB.out _).mono ?_; rintro e w9 ⟨rfl, rfl⟩)
        go_ret
        exact ⟨rfl, K8.out⟩
      by_cases p2 : (n : Int) ≤ r
      · rw [if_neg (by decide), if_pos (Or.inr p2)] at hss
        subst hss
        go_wp2_with (go_at_call 17; refine (HB.out _).mono ?_; rintro e w9 ⟨rfl, rfl⟩)
        go_ret
        exact ⟨rfl, K8.out⟩
      · rw [if_neg (by decide), if_neg (by omega)] at hss
        subst hss
        go_wp2_with (go_at_call 17; refine (HB.out _).mono ?_; rintro e w9 ⟨rfl, rfl⟩)
        go_ret
        exact ⟨rfl, K8.out⟩
end Go.Proofs.Qxb6614736a
