import Derived.Test.Qxb6608940aW6
namespace Go.Proofs.Qxb6608940a
open Go.RowKit
set_option linter.unusedVariables false

theorem Ok.step {m : Nat} {nx ed : Int} {st en : Nat → Int} (h : Ok m nx ed st en) : ∀ k s, s + k < m → en s ≤ en (s + k)
  | 0, s, _ => Int.le_refl _
  | k + 1, s, hk => by
    have h1 := h.step k s (by omega)
    have h2 := h.seq (s + k + 1) (by omega) (by omega)
    have h3 := h.pos (s + k + 1) (by omega)
    have e : s + k + 1 - 1 = s + k := by omega
    rw [e] at h2
    have e2 : s + (k + 1) = s + k + 1 := by omega
    rw [e2]; omega
theorem Ok.mono {m : Nat} {nx ed : Int} {st en : Nat → Int} (h : Ok m nx ed st en) : ∀ s t, s ≤ t → t < m → en s ≤ en t := fun s t hs ht => by
  have := h.step (t - s) s (by omega)
  rwa [show s + (t - s) = t by omega] at this

theorem first_ex (en : Nat → Int) (nx : Int) : ∀ m, ∃ K, First m en nx K
  | 0 => ⟨0, Nat.le_refl _, fun t ht => absurd ht (Nat.not_lt_zero _), fun h => absurd h (Nat.lt_irrefl _)⟩
  | m + 1 => by
    obtain ⟨K, h1, h2, h3⟩ := first_ex en nx m
    by_cases hK : K < m
    · exact ⟨K, by omega, h2, fun _ => h3 hK⟩
    · by_cases hn : nx < en m
      · exact ⟨K, by omega, h2, fun h => by rw [show K = m by omega]; exact hn⟩
      · exact ⟨m + 1, Nat.le_refl _, fun t ht => by
          if h : t < m then exact h2 t (by omega) else rw [show t = m by omega]; omega, fun h => by omega⟩

/-- Where something is left to send the record that holds 'next' is there. -/
theorem Ok.inside {m : Nat} {nx ed : Int} {st en : Nat → Int} (h : Ok m nx ed st en) (hlt : nx < ed) {K : Nat} (hK : First m en nx K) : K < m := by
  obtain ⟨h1, h2, h3⟩ := hK
  by_cases hm : m = 0
  · have := h.z hm; omega
  · have := h.lst (by omega)
    by_cases hk : K < m
    · exact hk
    · have := h2 (m - 1) (by omega); omega
theorem Ok.upper {m : Nat} {nx ed : Int} {st en : Nat → Int} (h : Ok m nx ed st en) {K : Nat} (hK : K < m) : en K ≤ ed := by
  have := h.lst (by omega)
  have := h.mono K (m - 1) (by omega) (by omega)
  omega

/-- What 'waits' answers. -/
def ans (nx ed lm st en d : Int) (on gv : Bool) : Bool := decide (nx < ed) && waitB nx lm st en d on gv
def low (nx ed : Int) (gv : Bool) : Bool := decide (nx < ed) && !gv

theorem waitB_mono {nx l1 l2 st en d : Int} {on gv : Bool} (h : l1 ≤ l2) (h2 : waitB nx l2 st en d on gv = true) : waitB nx l1 st en d on gv = true := by
  unfold waitB at *
  cases gv
  · simp only [Bool.not_false, Bool.true_and, Bool.or_eq_true, Bool.and_eq_true, decide_eq_true_eq] at *
    rcases h2 with h2 | ⟨h2, h3, h4⟩
    · left; omega
    · right; exact ⟨by omega, h3, h4⟩
  · simp at h2
theorem ans_mono {nx ed l1 l2 st en d : Int} {on gv : Bool} (h : l1 ≤ l2) (h2 : ans nx ed l2 st en d on gv = true) : ans nx ed l1 st en d on gv = true := by
  unfold ans at *
  rw [Bool.and_eq_true] at *
  exact ⟨h2.1, waitB_mono h h2.2⟩
theorem ans_low {nx ed l st en d : Int} {on gv : Bool} (h : l ≤ nx) : ans nx ed l st en d on gv = low nx ed gv := by
  unfold ans low waitB
  have : decide (l ≤ nx) = true := by simpa using h
  rw [this]; simp
theorem ans_high {nx ed l st en d : Int} {on gv : Bool} (h : ed ≤ l) (h2 : nx < ed → en ≤ ed) : ans nx ed l st en d on gv = false := by
  unfold ans waitB
  by_cases hn : nx < ed
  · have e1 : decide (l ≤ nx) = false := by simp; omega
    have e2 : decide (l < en) = false := by simp; have := h2 hn; omega
    rw [e1, e2]; simp
  · have e1 : decide (nx < ed) = false := by simpa using hn
    rw [e1]; rfl

/-- ZZwaits over a stream that is well made. -/
theorem zw_any (w : World) (S B m : Nat) (nx ed lm : Int) (st en d : Nat → Int) (on gv : Nat → Bool) (T : Strm w S B m nx ed lm st en d on gv) (hm : m ≤ 32768) (hO : Ok m nx ed st en)
    (hu : ∀ i, i < m → 0 ≤ st i ∧ en i ≤ 18446744073709551615) (K : Nat) (hK : First m en nx K) :
    Calls Try.prog 18 #[.pointer (some ⟨S, 0, none⟩)] w fun e w' => e = .returned (.bool (ans nx ed lm (st K) (en K) (d K) (on K) (gv K))) ∧ Below w.heap.size w w' := by
  have HW : Hid (Calls Try.prog 26 #[.pointer (some ⟨S, 0, none⟩)] w fun e w' => e = .returned (.bool (ans nx ed lm (st K) (en K) (d K) (on K) (gv K))) ∧ Below w.heap.size w w') := by
    by_cases h : nx < ed
    · have hKm := hO.inside h hK
      have e : ans nx ed lm (st K) (en K) (d K) (on K) (gv K) = waitB nx lm (st K) (en K) (d K) (on K) (gv K) := by
        unfold ans; have : decide (nx < ed) = true := by simpa using h
        rw [this]; rfl
      rw [e]
      have := hO.pos K hKm
      exact waits_some w S B m nx ed lm st en d on gv T h hm hO.mono K hK hKm (hu K hKm).1 (by omega) (hu K hKm).2
    · have e : ans nx ed lm (st K) (en K) (d K) (on K) (gv K) = false := by
        unfold ans; have : decide (nx < ed) = false := by simpa using h
        rw [this]; rfl
      rw [e]
      exact waits_none w S B m nx ed lm st en d on gv T (by omega)
  generalize ans nx ed lm (st K) (en K) (d K) (on K) (gv K) = b at *
  clear T hO hu hK
  go_enter Try.func18, Try.ntmps18
  go_wp2_with (go_at_call 26; refine (HW.out).mono ?_; rintro e w' ⟨rfl, hb⟩)
  go_ret
  exact ⟨rfl, hb⟩
end Go.Proofs.Qxb6608940a
