import Derived.Test.Qxb6608940aW3
namespace Go.Proofs.Qxb6608940a
open Go.RowKit
set_option linter.unusedVariables false

theorem First.uniq {m : Nat} {en : Nat → Int} {off : Int} {K L : Nat} (a : First m en off K) (b : First m en off L) : K = L := by
  obtain ⟨a1, a2, a3⟩ := a
  obtain ⟨b1, b2, b3⟩ := b
  rcases Nat.lt_trichotomy K L with h | h | h
  · have := b2 K h; have := a3 (by omega); omega
  · exact h
  · have := a2 L h; have := b3 (by omega); omega

set_option maxRecDepth 100000 in
set_option maxHeartbeats 800000 in
theorem waits_none (w : World) (S B m : Nat) (nx ed lm : Int) (st en d : Nat → Int) (on gv : Nat → Bool) (T : Strm w S B m nx ed lm st en d on gv) (h : ed ≤ nx) :
    Calls Try.prog 26 #[.pointer (some ⟨S, 0, none⟩)] w fun e w' => e = .returned (.bool false) ∧ Below w.heap.size w w' := by
  have s2 := T.s2
  have s3 := T.s3
  clear T
  go_enter Try.func26, Try.ntmps26
  go_wp2
  go_quiet (fail)
  go_wp2
  go_ret
  exact ⟨rfl, below_drewN _⟩

/-- What 'waits' answers where something is left to send, at the record that holds 'next'. -/
def waitB (nx lm st en d : Int) (on gv : Bool) : Bool := !gv && (decide (lm ≤ nx) || (decide (lm < en) && (!(d == 0 && !on) && decide (en - st ≤ 1396))))

set_option maxRecDepth 100000 in
set_option maxHeartbeats 1600000 in
theorem waits_core (w : World) (S B m : Nat) (nx ed lm : Int) (st en d : Nat → Int) (on gv : Nat → Bool) (T : Strm w S B m nx ed lm st en d on gv) (h : nx < ed) (hm : m ≤ 32768)
    (hmono : ∀ s t, s ≤ t → t < m → en s ≤ en t) (K : Nat) (hK : First m en nx K) (hKm : K < m) (s0 e0 D : Int) (n g : Bool) (hR : Hid (s0 = st K ∧ e0 = en K ∧ D = d K ∧ n = on K ∧ g = gv K)) (g0 : 0 ≤ s0) (g1 : s0 ≤ e0) (g2 : e0 ≤ 18446744073709551615) :
    Calls Try.prog 26 #[.pointer (some ⟨S, 0, none⟩)] w fun e w' => e = .returned (.bool (waitB nx lm s0 e0 D n g)) ∧ Below w.heap.size w w' := by
  have s2 := T.s2
  have s3 := T.s3
  have i0 : (0 : Int) ≤ (K : Int) := by omega
  have i1 : (K : Int) < (m : Int) := by omega
  have HM := hide hmono
  have HK := hide hK
  clear hmono hK
  go_enter Try.func26, Try.ntmps26
  go_wp2
  go_quiet (fail)
  rename_i nq
  go_wp2
  have T1 := T.drewN (nq + 1)
  go_region_held3 (fun w' => w'.cell? ⟨S, 5, none⟩ = some (.slice (some ⟨B, 0, none⟩) m m) ∧ w'.cell? ⟨S, 2, none⟩ = some (.int .u64 nx)) (first | (exact ⟨T1.s5, T1.s2⟩) | (exact ⟨(T1.below (by assumption)).s5, (T1.below (by assumption)).s2⟩))
    (first | (go_at_call 34; refine (recordAt_any _ S B m nx ed lm st en d on gv T1 nx hm HM.out).mono ?_; rintro e w' ⟨⟨K', hK', rfl⟩, hb⟩; obtain rfl : K = K' := HK.out.uniq hK'))
  have T2 := T1.below hb
  have hB : Below w.heap.size w w' := (below_drewN (nq + 1)).trans hb
  have R : RecAt w' B (K * 8) s0 e0 D n g := by
    obtain ⟨q1, q2, q3, q4, q5⟩ := hR.out
    rw [q1, q2, q3, q4, q5]; exact T2.rs K hKm
  have c7 := R.c7
  have c1 := R.c1
  have t2 := T2.s2
  have t4 := T2.s4
  have HB := hide hB
  clear hb hB s2 s3 T T1 HM HK hK' i0 i1
  cases g with
  | true =>
    go_wp2
    go_quiet (fail)
    go_wp2
    go_ret
    exact ⟨rfl, HB.out.trans ((below_drewN _).mono HB.out.size)⟩
  | false =>
    by_cases h1 : lm ≤ nx
    · have d1 : decide (lm ≤ nx) = true := by simpa using h1
      go_wp2
      go_quiet (fail)
      go_wp2
      go_ret
      exact ⟨bool_of (by simp [waitB, h1]), HB.out.trans ((below_drewN _).mono HB.out.size)⟩
    · have d1 : decide (lm ≤ nx) = false := by simpa using h1
      by_cases h2 : lm < e0
      · have d2 : decide (lm < e0) = true := by simpa using h2
        have R' : RecAt w'.drew B (K * 8) s0 e0 D n false := ⟨R.c0, R.c1, R.c3, R.c4, R.c5, R.c6, R.c7⟩
        go_wp2
        go_region_held3 (fun w2 => w2.cell? ⟨S, 2, none⟩ = some (.int .u64 nx) ∧ w2.cell? ⟨S, 4, none⟩ = some (.int .u64 lm) ∧ w2.cell? ⟨B, K * 8 + 1, none⟩ = some (.int .u64 e0) ∧ w2.cell? ⟨B, K * 8 + 7, none⟩ = some (.bool false))
          (first | (exact ⟨t2, t4, c1, c7⟩) | (exact ⟨cell_later (w := w'.drew) (by assumption) t2, cell_later (w := w'.drew) (by assumption) t4, cell_later (w := w'.drew) (by assumption) c1, cell_later (w := w'.drew) (by assumption) c7⟩))
          (first | (go_at_call 35; refine (whole_any _ B (K * 8) s0 e0 D n false R' g0 g1 g2).mono ?_; rintro e w2 ⟨rfl, hb2⟩))
        go_wp2
        go_ret
        exact ⟨bool_of (by unfold waitB; rw [d1, d2]; simp), HB.out.trans (Below.mono (below_drewN 1 |>.trans hb2) HB.out.size)⟩
      · have d2 : decide (lm < e0) = false := by simpa using h2
        go_wp2
        go_quiet (fail)
        go_wp2
        go_ret
        exact ⟨bool_of (by unfold waitB; rw [d1, d2]; simp), HB.out.trans ((below_drewN _).mono HB.out.size)⟩

theorem waits_some (w : World) (S B m : Nat) (nx ed lm : Int) (st en d : Nat → Int) (on gv : Nat → Bool) (T : Strm w S B m nx ed lm st en d on gv) (h : nx < ed) (hm : m ≤ 32768)
    (hmono : ∀ s t, s ≤ t → t < m → en s ≤ en t) (K : Nat) (hK : First m en nx K) (hKm : K < m) (g0 : 0 ≤ st K) (g1 : st K ≤ en K) (g2 : en K ≤ 18446744073709551615) :
    Calls Try.prog 26 #[.pointer (some ⟨S, 0, none⟩)] w fun e w' => e = .returned (.bool (waitB nx lm (st K) (en K) (d K) (on K) (gv K))) ∧ Below w.heap.size w w' :=
  waits_core w S B m nx ed lm st en d on gv T h hm hmono K hK hKm _ _ _ _ _ (hide ⟨rfl, rfl, rfl, rfl, rfl⟩) g0 g1 g2
end Go.Proofs.Qxb6608940a
