import Derived.Test.Qxb6608940aW2
namespace Go.Proofs.Qxb6608940a
open Go.RowKit
set_option linter.unusedVariables false

theorem whole_any (w : World) (B o : Nat) (st en d : Int) (on gv : Bool) (R : RecAt w B o st en d on gv) (h0 : 0 ≤ st) (h1 : st ≤ en) (h2 : en ≤ 18446744073709551615) :
    Calls Try.prog 35 #[.pointer (some ⟨B, o, none⟩)] w fun e w' => e = .returned (.bool (!(d == 0 && !on) && decide (en - st ≤ 1396))) ∧ Below w.heap.size w w' := by
  rcases Bool.eq_false_or_eq_true (d == 0 && !on) with h | h
  · rw [h]; exact whole_rel w B o st en d on gv R h
  · rw [h]; exact whole_not w B o st en d on gv R h h0 h1 h2

/-- A send stream in memory: the struct in block S, its m records in block B. -/
structure Strm (w : World) (S B m : Nat) (nx ed lm : Int) (st en d : Nat → Int) (on gv : Nat → Bool) : Prop where
  s2 : w.cell? ⟨S, 2, none⟩ = some (.int .u64 nx)
  s3 : w.cell? ⟨S, 3, none⟩ = some (.int .u64 ed)
  s4 : w.cell? ⟨S, 4, none⟩ = some (.int .u64 lm)
  s5 : w.cell? ⟨S, 5, none⟩ = some (.slice (some ⟨B, 0, none⟩) m m)
  rs : ∀ i, i < m → RecAt w B (i * 8) (st i) (en i) (d i) (on i) (gv i)

theorem RecAt.below {w w' : World} {B o : Nat} {st en d : Int} {on gv : Bool} (R : RecAt w B o st en d on gv) (hb : Below w.heap.size w w') : RecAt w' B o st en d on gv :=
  ⟨cell_later hb R.c0, cell_later hb R.c1, cell_later hb R.c3, cell_later hb R.c4, cell_later hb R.c5, cell_later hb R.c6, cell_later hb R.c7⟩
theorem Strm.below {w w' : World} {S B m : Nat} {nx ed lm : Int} {st en d : Nat → Int} {on gv : Nat → Bool} (T : Strm w S B m nx ed lm st en d on gv) (hb : Below w.heap.size w w') : Strm w' S B m nx ed lm st en d on gv :=
  ⟨cell_later hb T.s2, cell_later hb T.s3, cell_later hb T.s4, cell_later hb T.s5, fun i hi => (T.rs i hi).below hb⟩

set_option maxRecDepth 100000 in
set_option maxHeartbeats 800000 in
theorem clo_any (w : World) (S B m : Nat) (nx ed lm : Int) (st en d : Nat → Int) (on gv : Nat → Bool) (T : Strm w S B m nx ed lm st en d on gv) (p q : Nat) (off : Int)
    (hp : w.cell? ⟨p, 0, none⟩ = some (.pointer (some ⟨S, 0, none⟩))) (hq : w.cell? ⟨q, 0, none⟩ = some (.int .u64 off)) (k : Nat) (hk : k < m) (hm : m ≤ 32768) :
    Calls Try.prog 41 #[.int .i64 (k : Int), .pointer (some ⟨p, 0, none⟩), .pointer (some ⟨q, 0, none⟩)] w fun e w' => e = .returned (.bool (decide (off < en k))) ∧ ∃ n, w' = w.drewN n := by
  have s5 := T.s5
  have c1 := (T.rs k hk).c1
  have i0 : (0 : Int) ≤ (k : Int) := by omega
  have i1 : (k : Int) < (m : Int) := by omega
  clear T
  go_enter Try.func41, Try.ntmps41
  go_wp2
  go_quiet (fail)
  go_wp2
  go_ret
  exact ⟨rfl, _, rfl⟩

theorem Strm.drewN {w : World} {S B m : Nat} {nx ed lm : Int} {st en d : Nat → Int} {on gv : Nat → Bool} (T : Strm w S B m nx ed lm st en d on gv) (n : Nat) : Strm (w.drewN n) S B m nx ed lm st en d on gv :=
  ⟨T.s2, T.s3, T.s4, T.s5, fun i hi => ⟨(T.rs i hi).c0, (T.rs i hi).c1, (T.rs i hi).c3, (T.rs i hi).c4, (T.rs i hi).c5, (T.rs i hi).c6, (T.rs i hi).c7⟩⟩

theorem hide {p : Prop} (h : p) : Hid p := h
/-- K is the first of the m records that ends past 'off'. -/
def First (m : Nat) (en : Nat → Int) (off : Int) (K : Nat) : Prop := K ≤ m ∧ (∀ t, t < K → en t ≤ off) ∧ (K < m → off < en K)

set_option maxRecDepth 100000 in
set_option maxHeartbeats 800000 in
theorem search_any (w : World) (S B m : Nat) (nx ed lm : Int) (st en d : Nat → Int) (on gv : Nat → Bool) (T : Strm w S B m nx ed lm st en d on gv) (p q : Nat) (off : Int)
    (hp : w.cell? ⟨p, 0, none⟩ = some (.pointer (some ⟨S, 0, none⟩))) (hq : w.cell? ⟨q, 0, none⟩ = some (.int .u64 off)) (hm : m ≤ 32768)
    (hmono : ∀ s t, s ≤ t → t < m → en s ≤ en t) :
    Calls Try.prog 40 #[.int .i64 (m : Int), .func (.func 41) #[] #[.pointer (some ⟨p, 0, none⟩), .pointer (some ⟨q, 0, none⟩)]] w fun e w' => (∃ K : Nat, First m en off K ∧ e = .returned (.int .i64 (K : Int))) ∧ ∃ n, w' = w.drewN n := by
  have HM : Hid (∀ s t, s ≤ t → t < m → en s ≤ en t) := hmono
  clear hmono
  go_enter Try.func40, Try.ntmps40
  go_wp2
  go_loopw [5, 6] (fun i j wr => ∃ a b n : Nat, a ≤ b ∧ b ≤ m ∧ i = .int .i64 a ∧ j = .int .i64 b ∧ (∀ t, t < a → en t ≤ off) ∧ (b < m → off < en b) ∧ wr = w.drewN n) (fun i j _ => (intOf j).toNat - (intOf i).toNat)
  case atStart => exact ⟨0, m, 0, Nat.zero_le _, Nat.le_refl _, rfl, rfl, fun t ht => absurd ht (Nat.not_lt_zero _), fun h => absurd h (Nat.lt_irrefl _), rfl⟩
  case round =>
    obtain ⟨a, b, n, hab, hbm, rfl, rfl, ha, hb, rfl⟩ := hrel
    have HA : Hid (∀ t, t < a → en t ≤ off) := ha
    have HB : Hid (b < m → off < en b) := hb
    clear ha hb
    by_cases hlt : a < b
    · have hh : ((a : Int) + (b : Int)) / 2 = (((a + b) / 2 : Nat) : Int) := by omega
      have h1 : a ≤ (a + b) / 2 := by omega
      have h2 : (a + b) / 2 < b := by omega
      obtain ⟨h, hh', h1, h2⟩ : ∃ h : Nat, ((a : Int) + (b : Int)) / 2 = (h : Int) ∧ a ≤ h ∧ h < b := ⟨(a + b) / 2, hh, h1, h2⟩
      clear hh
      have hmh : h < m := by omega
      have hcl := clo_any (w.drewN n) S B m nx ed lm st en d on gv (T.drewN n) p q off hp hq h hmh hm
      by_cases hc : off < en h
      · have hd : decide (off < en h) = true := by simpa using hc
        rw [hd] at hcl
        have HC := hide hcl
        clear hcl hd
        go_wp2_with (go_at_call 41; refine (HC.out).mono ?_; rintro e w' ⟨rfl, n', rfl⟩)
        go_roundw
        case rel => exact ⟨a, h, n + n', by omega, by omega, rfl, rfl, HA.out, fun _ => hc, rfl⟩
        case measure => simp [intOf]; omega
      · have hd : decide (off < en h) = false := by simpa using hc
        rw [hd] at hcl
        have HC := hide hcl
        clear hcl hd
        go_wp2_with (go_at_call 41; refine (HC.out).mono ?_; rintro e w' ⟨rfl, n', rfl⟩)
        go_roundw
        case rel => exact ⟨h + 1, b, n + n', by omega, by omega, by go_num, rfl, fun t ht => Int.le_trans (HM.out t h (by omega) hmh) (by omega), HB.out, rfl⟩
        case measure => simp [intOf]; omega
    · go_wp2_with fail
      go_ret
      have : a = b := by omega
      subst this
      exact ⟨⟨a, ⟨hbm, HA.out, HB.out⟩, rfl⟩, n, rfl⟩

theorem below_drewN {w : World} (n : Nat) : Below w.heap.size w (w.drewN n) := ⟨rfl, rfl, rfl, Nat.le_refl _, fun _ _ => rfl⟩
theorem Strm.alloc {w : World} {S B m : Nat} {nx ed lm : Int} {st en d : Nat → Int} {on gv : Nat → Bool} (T : Strm w S B m nx ed lm st en d on gv) (O : Obj) : Strm (w.alloc O) S B m nx ed lm st en d on gv :=
  T.below ((Below.refl _ _).alloc (Nat.le_refl _) O)

set_option maxRecDepth 100000 in
set_option maxHeartbeats 800000 in
theorem recordAt_any (w : World) (S B m : Nat) (nx ed lm : Int) (st en d : Nat → Int) (on gv : Nat → Bool) (T : Strm w S B m nx ed lm st en d on gv) (off : Int) (hm : m ≤ 32768)
    (hmono : ∀ s t, s ≤ t → t < m → en s ≤ en t) :
    Calls Try.prog 34 #[.pointer (some ⟨S, 0, none⟩), .int .u64 off] w fun e w' => (∃ K : Nat, First m en off K ∧ e = .returned (.int .i64 (K : Int))) ∧ Below w.heap.size w w' := by
  have s5 : ((w.alloc (.cells #[.pointer (some ⟨S, 0, none⟩)] 41)).alloc (.cells #[.int .u64 off] 29)).cell? ⟨S, 5, none⟩ = some (.slice (some ⟨B, 0, none⟩) m m) := ((T.alloc _).alloc _).s5
  have hc := search_any ((w.alloc (.cells #[.pointer (some ⟨S, 0, none⟩)] 41)).alloc (.cells #[.int .u64 off] 29)) S B m nx ed lm st en d on gv ((T.alloc _).alloc _) w.heap.size (w.heap.size + 1) off
    (by simp [go_sem]) (by simp [go_sem]) hm hmono
  have HC := hide hc
  clear hc hmono T
  go_enter Try.func34, Try.ntmps34
  go_wp2_with (go_at_call 40; refine (HC.out).mono ?_; rintro e w' ⟨⟨K, hK, rfl⟩, n', rfl⟩)
  go_ret
  exact ⟨⟨K, hK, rfl⟩, (((Below.refl _ _).alloc (Nat.le_refl _) _).alloc (by simp) _).trans ((below_drewN n').mono (by simp; omega))⟩
end Go.Proofs.Qxb6608940a
