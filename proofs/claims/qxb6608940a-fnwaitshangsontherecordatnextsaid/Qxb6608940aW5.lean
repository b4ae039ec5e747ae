import Derived.Test.Qxb6608940aW4
import Derived.Laws.MakeOwn
namespace Go.Proofs.Qxb6608940a
open Go.RowKit
set_option linter.unusedVariables false

theorem build53 (w : World) : (Instr.build 53 #[]).run Try.prog w = .ok (.agg #[.int .u64 0, .int .i64 0, .pointer none]) w := run_build w 53 _ _ (by kernel_rfl)
theorem build64 (x y : Int) (p : Option Addr) (b : Bool) (w : World) : (Instr.build 64 #[(0, .agg #[.int .u64 x, .int .i64 y, .pointer p]), (1, .bool b)]).run Try.prog w = .ok (.agg #[.int .u64 x, .int .i64 y, .pointer p, .bool b]) w := run_build w 64 _ _ (by kernel_rfl)
theorem build67 (s e x y : Int) (p : Option Addr) (b g : Bool) (w : World) : (Instr.build 67 #[(0, .int .u64 s), (1, .int .u64 e), (3, .agg #[.int .u64 x, .int .i64 y, .pointer p, .bool b]), (4, .bool g)]).run Try.prog w =
    .ok (.agg #[.int .u64 s, .int .u64 e, .slice none 0 0, .int .u64 x, .int .i64 y, .pointer p, .bool b, .bool g]) w := run_build w 67 _ _ (by kernel_rfl)
theorem build72 (n e l : Int) (v : Option Addr) (a b : Nat) (w : World) : (Instr.build 72 #[(2, .int .u64 n), (3, .int .u64 e), (4, .int .u64 l), (5, .slice v a b)]).run Try.prog w =
    .ok (.agg #[.int .u32 0, .int .u64 0, .int .u64 n, .int .u64 e, .int .u64 l, .slice v a b, .int .i64 0, .slice none 0 0, .slice none 0 0, .int .i64 0, .int .i64 0, .bool false, .bool false]) w := run_build w 72 _ _ (by kernel_rfl)
theorem info67 : (Try.prog.info? 67).map (fun i => (i.zero, i.size, i.bytes)) = some (some (.agg #[.int .u64 0, .int .u64 0, .slice none 0 0, .int .u64 0, .int .i64 0, .pointer none, .bool false, .bool false]), 8, 80) := by kernel_rfl

theorem cell_drew {w : World} {a : Addr} {v : Value} (h : w.cell? a = some v) : w.drew.cell? a = some v := h
theorem cell_set {w : World} {p o H x : Nat} {v y : Value} (h : w.cell? ⟨p, o, none⟩ = some v) (hne : p < H) : (w.setCell ⟨H, x, none⟩ y).cell? ⟨p, o, none⟩ = some v := by
  rw [World.cell?_setCell_other _ _ _ _ (by intro e; cases e; omega)]; exact h
theorem add_lit (d : Int) (h1 : -9223372036854775808 ≤ d) (h2 : d ≤ 9223372036854775807) (w : World) :
    Calls Try.prog 24 #[.agg #[.int .u64 0, .int .i64 0, .pointer none], .int .i64 d] w fun e w' =>
      e = .returned (.agg #[.int .u64 (d % 1000000000), .int .i64 (d / 1000000000), .pointer none]) ∧ w' = (w.alloc (.cells (zt d) 53)).alloc (.cells (zt d) 53) := add_any d h1 h2 w
/-- A slice of m elements in memory: element i reads f i. -/
def Sl (w : World) (a : Option Addr) (m : Nat) (f : Nat → Value) : Prop := ∀ i, i < m → ∃ b o, a = some ⟨b, o, none⟩ ∧ w.cell? ⟨b, o + i, none⟩ = some (f i)
theorem Sl.below {w w' : World} {a : Option Addr} {m : Nat} {f : Nat → Value} (h : Sl w a m f) (hb : Below w.heap.size w w') : Sl w' a m f := fun i hi => by
  obtain ⟨b, o, e, c⟩ := h i hi
  exact ⟨b, o, e, cell_later hb c⟩

theorem make62 (m : Nat) (hm : m ≤ 32768) (w : World) : (Instr.makeSlice 62 (.int .i64 (m : Int)) (.int .i64 (m : Int))).run Try.prog w =
    .ok (.slice (some ⟨w.heap.size, 0, none⟩) m m) (w.alloc (.cells (madeCells #[.int .u64 0, .int .u64 0, .slice none 0 0, .int .u64 0, .int .i64 0, .pointer none, .bool false, .bool false] (m * 8)) 67)) := by
  obtain ⟨i, hi, hz, hs, hb⟩ := info_parts info67
  have := run_make (P := Try.prog) w 62 67 i _ Try.underlying62 hi hz .i64 .i64 m m (by omega) (Int.le_refl _) (by rw [hb]; omega) (by omega)
  rw [this, hs]
  rfl

theorem below_setCells {H : Nat} {w0 : World} : ∀ (vs : List Value) (o : Nat) (w : World), Below H w0 w → Below H w0 (w.setCells H o vs)
  | [], _, _, h => h
  | v :: r, o, w, h => below_setCells r (o + 1) _ (h.setCell (Nat.le_refl _) v)

/-- The world behind one round: record k is written, and two times have been made. -/
def roundW (wr : World) (H k : Nat) (s e d : Int) (on gv : Bool) : World :=
  ((((((((((wr.setCell ⟨H, k * 8, none⟩ (.int .u64 s)).setCell ⟨H, k * 8 + 1, none⟩ (.int .u64 e)).setCell ⟨H, k * 8 + 2, none⟩ (.slice none 0 0)).setCell ⟨H, k * 8 + 3, none⟩ (.int .u64 (d % 1000000000))).setCell
    ⟨H, k * 8 + 4, none⟩ (.int .i64 (d / 1000000000))).setCell ⟨H, k * 8 + 5, none⟩ (.pointer none)).setCell ⟨H, k * 8 + 6, none⟩ (.bool on)).setCell ⟨H, k * 8 + 7, none⟩ (.bool gv)).alloc (.cells (zt d) 53)).alloc (.cells (zt d) 53)).drew

theorem round_eq (wr : World) (H k : Nat) (s e d : Int) (on gv : Bool) : roundW wr H k s e d on gv =
    (((wr.setCells H (k * 8) [.int .u64 s, .int .u64 e, .slice none 0 0, .int .u64 (d % 1000000000), .int .i64 (d / 1000000000), .pointer none, .bool on, .bool gv]).alloc (.cells (zt d) 53)).alloc (.cells (zt d) 53)).drew := rfl

theorem RecAt.apart {w : World} {B o : Nat} {st en d : Int} {on gv : Bool} (R : RecAt w B o st en d on gv) (o' : Nat) (vs : List Value) (h : o + 8 ≤ o') : RecAt (w.setCells B o' vs) B o st en d on gv := by
  have f : ∀ j v, j < 8 → w.cell? ⟨B, o + j, none⟩ = some v → (w.setCells B o' vs).cell? ⟨B, o + j, none⟩ = some v := fun j v hj hv => by
    rw [World.cell?_setCells_out B vs o' w ⟨B, o + j, none⟩ (fun _ _ => by left; show o + j < o'; omega)]; exact hv
  exact ⟨f 0 _ (by omega) R.c0, f 1 _ (by omega) R.c1, f 3 _ (by omega) R.c3, f 4 _ (by omega) R.c4, f 5 _ (by omega) R.c5, f 6 _ (by omega) R.c6, f 7 _ (by omega) R.c7⟩

theorem rec_step (w wr : World) (m k : Nat) (st en d : Nat → Int) (on gv : Nat → Bool) (hkm : k < m) (hB : Below w.heap.size w wr) (hlt : w.heap.size < wr.heap.size)
    (hR : ∀ i, i < k → RecAt wr w.heap.size (i * 8) (st i) (en i) (d i) (on i) (gv i))
    (hC : ∀ i j, i < m → j < 8 → (wr.cell? ⟨w.heap.size, i * 8 + j, none⟩).isSome = true ∧ wr.frozen? ⟨w.heap.size, i * 8 + j, none⟩ = false) :
    Below w.heap.size w (roundW wr w.heap.size k (st k) (en k) (d k) (on k) (gv k)) ∧ w.heap.size < (roundW wr w.heap.size k (st k) (en k) (d k) (on k) (gv k)).heap.size ∧
    (∀ i, i < k + 1 → RecAt (roundW wr w.heap.size k (st k) (en k) (d k) (on k) (gv k)) w.heap.size (i * 8) (st i) (en i) (d i) (on i) (gv i)) ∧
    (∀ i j, i < m → j < 8 → ((roundW wr w.heap.size k (st k) (en k) (d k) (on k) (gv k)).cell? ⟨w.heap.size, i * 8 + j, none⟩).isSome = true ∧ (roundW wr w.heap.size k (st k) (en k) (d k) (on k) (gv k)).frozen? ⟨w.heap.size, i * 8 + j, none⟩ = false) := by
  rw [round_eq]
  have hth : wr.there w.heap.size (k * 8) 8 := fun j hj => hC k j hkm hj
  have hsame := World.rangeAt_setCells_same wr w.heap.size (k * 8) [.int .u64 (st k), .int .u64 (en k), .slice none 0 0, .int .u64 (d k % 1000000000), .int .i64 (d k / 1000000000), .pointer none, .bool (on k), .bool (gv k)] hth
  have hap : ∀ i, i < k → RecAt (wr.setCells w.heap.size (k * 8) [.int .u64 (st k), .int .u64 (en k), .slice none 0 0, .int .u64 (d k % 1000000000), .int .i64 (d k / 1000000000), .pointer none, .bool (on k), .bool (gv k)]) w.heap.size (i * 8) (st i) (en i) (d i) (on i) (gv i) :=
    fun i hi => (hR i hi).apart _ _ (by omega)
  have hC' : ∀ i j, i < m → j < 8 → ((wr.setCells w.heap.size (k * 8) [.int .u64 (st k), .int .u64 (en k), .slice none 0 0, .int .u64 (d k % 1000000000), .int .i64 (d k / 1000000000), .pointer none, .bool (on k), .bool (gv k)]).cell? ⟨w.heap.size, i * 8 + j, none⟩).isSome = true ∧
      (wr.setCells w.heap.size (k * 8) [.int .u64 (st k), .int .u64 (en k), .slice none 0 0, .int .u64 (d k % 1000000000), .int .i64 (d k / 1000000000), .pointer none, .bool (on k), .bool (gv k)]).frozen? ⟨w.heap.size, i * 8 + j, none⟩ = false := fun i j hi hj =>
    ⟨World.isSome_setCells _ _ _ _ _ (hC i j hi hj).1, by rw [World.frozen?_setCells]; exact (hC i j hi hj).2⟩
  have hB' := below_setCells [.int .u64 (st k), .int .u64 (en k), .slice none 0 0, .int .u64 (d k % 1000000000), .int .i64 (d k / 1000000000), .pointer none, .bool (on k), .bool (gv k)] (k * 8) wr hB
  have hlt' : w.heap.size < (wr.setCells w.heap.size (k * 8) [.int .u64 (st k), .int .u64 (en k), .slice none 0 0, .int .u64 (d k % 1000000000), .int .i64 (d k / 1000000000), .pointer none, .bool (on k), .bool (gv k)]).heap.size := by
    obtain ⟨u, hu⟩ := Option.isSome_iff_exists.1 (hC' k 0 hkm (by omega)).1
    exact World.block_lt_of_cell? _ _ hu
  generalize wr.setCells w.heap.size (k * 8) [.int .u64 (st k), .int .u64 (en k), .slice none 0 0, .int .u64 (d k % 1000000000), .int .i64 (d k / 1000000000), .pointer none, .bool (on k), .bool (gv k)] = W at *
  have hg : Below W.heap.size W (((W.alloc (.cells (zt (d k)) 53)).alloc (.cells (zt (d k)) 53)).drew) := (((Below.refl _ _).alloc (Nat.le_refl _) _).alloc (by simp) _).drew
  refine ⟨hB'.trans (hg.mono (by omega)), Nat.lt_of_lt_of_le hlt' hg.size, fun i hi => ?_, fun i j hi hj => ?_⟩
  · by_cases h : i < k
    · exact (hap i h).below hg
    · obtain rfl : i = k := by omega
      refine RecAt.below ?_ hg
      exact ⟨hsame 0 _ rfl, hsame 1 _ rfl, hsame 3 _ rfl, hsame 4 _ rfl, hsame 5 _ rfl, hsame 6 _ rfl, hsame 7 _ rfl⟩
  · obtain ⟨h1, h2⟩ := hC' i j hi hj
    exact ⟨by rw [hg.cell (p := ⟨w.heap.size, i * 8 + j, none⟩) hlt']; exact h1, by rw [hg.frozen (p := ⟨w.heap.size, i * 8 + j, none⟩) hlt']; exact h2⟩

theorem made_there (w : World) (z : Array Value) (t : TypeId) (n x : Nat) (h : x < n) :
    ((w.alloc (.cells (madeCells z n) t)).cell? ⟨w.heap.size, x, none⟩).isSome = true ∧ (w.alloc (.cells (madeCells z n) t)).frozen? ⟨w.heap.size, x, none⟩ = false := by
  rw [World.cell?_alloc_at _ _ _ _ rfl, World.frozen?_alloc_at _ _ _ _ rfl]
  refine ⟨?_, rfl⟩
  rw [Array.getElem?_eq_getElem (by rw [size_madeCells]; exact h)]; rfl

theorem strm_new (w wr : World) (m : Nat) (nx ed lm : Int) (st en d : Nat → Int) (on gv : Nat → Bool) (hB : Below w.heap.size w wr)
    (hR : ∀ i, i < m → RecAt wr w.heap.size (i * 8) (st i) (en i) (d i) (on i) (gv i)) :
    Strm (wr.alloc (.cells #[.int .u32 0, .int .u64 0, .int .u64 nx, .int .u64 ed, .int .u64 lm, .slice (some ⟨w.heap.size, 0, none⟩) m m, .int .i64 0, .slice none 0 0, .slice none 0 0, .int .i64 0, .int .i64 0, .bool false, .bool false] 72)) wr.heap.size w.heap.size m nx ed lm st en d on gv ∧
    Below w.heap.size w (wr.alloc (.cells #[.int .u32 0, .int .u64 0, .int .u64 nx, .int .u64 ed, .int .u64 lm, .slice (some ⟨w.heap.size, 0, none⟩) m m, .int .i64 0, .slice none 0 0, .slice none 0 0, .int .i64 0, .int .i64 0, .bool false, .bool false] 72)) := by
  refine ⟨⟨?_, ?_, ?_, ?_, fun i hi => (hR i hi).below ((Below.refl _ _).alloc (Nat.le_refl _) _)⟩, hB.alloc hB.size _⟩
  all_goals (rw [World.cell?_alloc_at _ _ _ _ rfl]; rfl)

set_option maxRecDepth 100000 in
set_option maxHeartbeats 1600000 in
theorem new_any (w : World) (m : Nat) (nx ed lm : Int) (st en d : Nat → Int) (on gv : Nat → Bool) (a0 a1 a2 a3 a4 : Option Addr) (c0 c1 c2 c3 c4 : Nat)
    (h0 : Sl w a0 m fun i => .int .u64 (st i)) (h1 : Sl w a1 m fun i => .int .u64 (en i)) (h2 : Sl w a2 m fun i => .bool (on i)) (h3 : Sl w a3 m fun i => .int .i64 (d i)) (h4 : Sl w a4 m fun i => .bool (gv i))
    (hd : ∀ i, i < m → -9223372036854775808 ≤ d i ∧ d i ≤ 9223372036854775807) (hm : m ≤ 32768) :
    Calls Try.prog 19 #[.slice a0 m c0, .slice a1 m c1, .slice a2 m c2, .slice a3 m c3, .slice a4 m c4, .int .u64 nx, .int .u64 ed, .int .u64 lm] w fun e w' =>
      ∃ S B, e = .returned (.pointer (some ⟨S, 0, none⟩)) ∧ Strm w' S B m nx ed lm st en d on gv ∧ Below w.heap.size w w' := by
  have mk := make62 m hm
  have b53 := build53
  have b64 := build64
  have b67 := build67
  have b72 := build72
  have HD := hide hd
  have H0 := hide h0
  have H1 := hide h1
  have H2 := hide h2
  have H3 := hide h3
  have H4 := hide h4
  clear hd h0 h1 h2 h3 h4
  go_enter Try.func19, Try.ntmps19
  go_wp2
  go_loopw [18] (fun i wr => ∃ k : Nat, k ≤ m ∧ i = .int .i64 k ∧ Below w.heap.size w wr ∧ w.heap.size < wr.heap.size ∧ (∀ i, i < k → RecAt wr w.heap.size (i * 8) (st i) (en i) (d i) (on i) (gv i)) ∧
      (∀ i j, i < m → j < 8 → (wr.cell? ⟨w.heap.size, i * 8 + j, none⟩).isSome = true ∧ wr.frozen? ⟨w.heap.size, i * 8 + j, none⟩ = false)) (fun i _ => m - (intOf i).toNat)
  case atStart =>
    exact ⟨0, Nat.zero_le _, rfl, (Below.refl _ _).alloc (Nat.le_refl _) _, by simp, fun i hi => absurd hi (Nat.not_lt_zero _), fun i j hi hj => made_there w _ 67 (m * 8) (i * 8 + j) (by omega)⟩
  case round =>
    obtain ⟨k, hk, rfl, hB, hlt, hR, hC⟩ := hrel
    have HB := hide hB
    have HR := hide hR
    have HC := hide hC
    clear hB hR hC
    by_cases hkm : k < m
    · obtain ⟨p0, o0, rfl, q0⟩ := H0.out k hkm
      obtain ⟨p1, o1, rfl, q1⟩ := H1.out k hkm
      obtain ⟨p2, o2, rfl, q2⟩ := H2.out k hkm
      obtain ⟨p3, o3, rfl, q3⟩ := H3.out k hkm
      obtain ⟨p4, o4, rfl, q4⟩ := H4.out k hkm
      have i0 : (0 : Int) ≤ (k : Int) := by omega
      have i1 : (k : Int) < (m : Int) := by omega
      have r0 := cell_later (wx := wr) HB.out q0
      have r1 := cell_later (wx := wr) HB.out q1
      have r2 := cell_later (wx := wr) HB.out q2
      have r3 := cell_later (wx := wr) HB.out q3
      have r4 := cell_later (wx := wr) HB.out q4
      have n0 := World.block_lt_of_cell? w _ q0
      have n1 := World.block_lt_of_cell? w _ q1
      have n2 := World.block_lt_of_cell? w _ q2
      have n3 := World.block_lt_of_cell? w _ q3
      have n4 := World.block_lt_of_cell? w _ q4
      simp only at n0 n1 n2 n3 n4
      clear q0 q1 q2 q3 q4
      have hdk := HD.out k hkm
      obtain ⟨z0, hz0⟩ := Option.isSome_iff_exists.1 (HC.out k 0 hkm (by omega)).1
      have fz0 := (HC.out k 0 hkm (by omega)).2
      obtain ⟨z1, hz1⟩ := Option.isSome_iff_exists.1 (HC.out k 1 hkm (by omega)).1
      have fz1 := (HC.out k 1 hkm (by omega)).2
      obtain ⟨z2, hz2⟩ := Option.isSome_iff_exists.1 (HC.out k 2 hkm (by omega)).1
      have fz2 := (HC.out k 2 hkm (by omega)).2
      obtain ⟨z3, hz3⟩ := Option.isSome_iff_exists.1 (HC.out k 3 hkm (by omega)).1
      have fz3 := (HC.out k 3 hkm (by omega)).2
      obtain ⟨z4, hz4⟩ := Option.isSome_iff_exists.1 (HC.out k 4 hkm (by omega)).1
      have fz4 := (HC.out k 4 hkm (by omega)).2
      obtain ⟨z5, hz5⟩ := Option.isSome_iff_exists.1 (HC.out k 5 hkm (by omega)).1
      have fz5 := (HC.out k 5 hkm (by omega)).2
      obtain ⟨z6, hz6⟩ := Option.isSome_iff_exists.1 (HC.out k 6 hkm (by omega)).1
      have fz6 := (HC.out k 6 hkm (by omega)).2
      obtain ⟨z7, hz7⟩ := Option.isSome_iff_exists.1 (HC.out k 7 hkm (by omega)).1
      have fz7 := (HC.out k 7 hkm (by omega)).2
      simp only [Nat.add_zero] at hz0 fz0
      go_wp2
      go_region_held3 (fun w' => w'.cell? ⟨p0, o0 + k, none⟩ = some (.int .u64 (st k)) ∧ w'.cell? ⟨p1, o1 + k, none⟩ = some (.int .u64 (en k)) ∧ w'.cell? ⟨p2, o2 + k, none⟩ = some (.bool (on k)) ∧ w'.cell? ⟨p3, o3 + k, none⟩ = some (.int .i64 (d k)) ∧ w'.cell? ⟨p4, o4 + k, none⟩ = some (.bool (gv k)))
        (refine ⟨?_, ?_, ?_, ?_, ?_⟩ <;> (with_reducible repeat (first | assumption | (refine cell_set ?_ (by assumption)) | refine cell_new _ ?_ | refine cell_drew ?_)))
        (first | (go_at_call 24; refine (add_lit (d k) hdk.1 hdk.2 _).mono ?_; rintro e w' ⟨rfl, rfl⟩))
      have RS := rec_step w wr m k st en d on gv hkm HB.out hlt HR.out HC.out
      have HS := hide RS
      clear RS r0 r1 r2 r3 r4 n0 n1 n2 n3 n4 hdk HB HR HC hz0 hz1 hz2 hz3 hz4 hz5 hz6 hz7 fz0 fz1 fz2 fz3 fz4 fz5 fz6 fz7
      go_wp2
      go_roundw
      case rel => exact ⟨k + 1, by omega, by go_num, HS.out⟩
      case measure => simp [intOf]; omega
    · obtain rfl : k = m := by omega
      have HS := hide (strm_new w wr k nx ed lm st en d on gv HB.out HR.out)
      clear HB HR HC
      go_wp2
      go_ret
      exact ⟨_, _, rfl, HS.out⟩
end Go.Proofs.Qxb6608940a
