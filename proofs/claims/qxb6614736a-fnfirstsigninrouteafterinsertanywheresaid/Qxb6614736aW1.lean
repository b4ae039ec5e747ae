import Derived.Test.Qxb6614736aRows
import Derived.WalkKit
import Derived.WalkSpells
import Derived.WalkLawsBesides
import Derived.RowKit3
import Derived.Deep.MidRow
import Derived.Deep.Draws
import Derived.OwnWalk
namespace Go.Proofs.Qxb6614736a
open Go.RowKit
set_option linter.unusedVariables false

theorem hide {p : Prop} (h : p) : Hid p := h
theorem cell_new {w : World} {a : Addr} {v : Value} (O : Obj) (h : w.cell? a = some v) : (w.alloc O).cell? a = some v :=
  (World.cell?_alloc_lt _ _ _ (World.block_lt_of_cell? w a h)).trans h

/-- A slice of m bools in memory. -/
def Sl (w : World) (a : Option Addr) (m : Nat) (p : Nat → Bool) : Prop := ∀ i, i < m → ∃ b o, a = some ⟨b, o, none⟩ ∧ w.cell? ⟨b, o + i, none⟩ = some (.bool (p i))
theorem Sl.below {w w' : World} {a : Option Addr} {m : Nat} {f : Nat → Bool} (h : Sl w a m f) (hb : Below w.heap.size w w') : Sl w' a m f := fun i hi => by
  obtain ⟨b, o, e, c⟩ := h i hi
  exact ⟨b, o, e, cell_later hb c⟩

/-- The cells of a route of which only 'public' is set. -/
def rc (b : Bool) : Array Value := #[.string ⟨#[]⟩, .string ⟨#[]⟩, .pointer none, .string ⟨#[]⟩, .string ⟨#[]⟩, .string ⟨#[]⟩, .string ⟨#[]⟩, .string ⟨#[]⟩, .string ⟨#[]⟩, .bool false, .bool false,
  .string ⟨#[]⟩, .string ⟨#[]⟩, .pointer none, .string ⟨#[]⟩, .string ⟨#[]⟩, .string ⟨#[]⟩, .string ⟨#[]⟩, .string ⟨#[]⟩, .string ⟨#[]⟩, .bool false, .bool false,
  .bool b, .bool false, .slice none 0 0, .slice none 0 0, .slice none 0 0, .pointer none]
theorem rc_size (b : Bool) : (rc b).size = 28 := rfl
theorem rc_22 (b : Bool) : (rc b)[22]? = some (.bool b) := rfl
theorem rc_one (b : Bool) : (rc b).all (·.oneCell') = true := by kernel_rfl
theorem build42 (b : Bool) (w : World) : (Instr.build 42 #[(2, .bool b)]).run Try.prog w = .ok (.agg (rc b)) w := run_build w 42 _ _ (by kernel_rfl)
theorem info42 : (Try.prog.info? 42).map (fun i => (i.zero, i.size, i.bytes)) = some (some (.agg (rc false)), 28, 376) := by kernel_rfl
theorem size42 (b : Bool) : (Try.prog.info? 42).map (·.size) = some (rc b).size := by kernel_rfl
theorem size42' (b : Bool) : (Try.prog.info? 42).map (·.size) = some (rc b).toList.length := by kernel_rfl

theorem clo_any (b : Bool) (w : World) :
    Calls Try.prog 20 #[.agg (rc b)] w fun e w' => e = .returned (.bool (!b)) ∧ w' = w.alloc (.cells (rc b) 42) := by
  have h22 := rc_22 b
  go_enter Try.func20, Try.ntmps20
  go_wp2
  go_ret
  exact ⟨rfl, rfl⟩

/-- r is the least index of a false, -1 where there is none. -/
def IsF (m : Nat) (p : Nat → Bool) (r : Int) : Prop := (r = -1 ∧ ∀ i, i < m → p i = true) ∨ ∃ K : Nat, K < m ∧ r = (K : Int) ∧ p K = false ∧ ∀ i, i < K → p i = true

/-- A file in memory: its struct in block S, its m routes in block B. -/
structure FileAt (w : World) (S B m : Nat) (p : Nat → Bool) : Prop where
  s14 : w.cell? ⟨S, 14, none⟩ = some (.slice (some ⟨B, 0, none⟩) m m)
  rs : ∀ i, i < m → w.rangeAt B (i * 28) (rc (p i)).toList
theorem FileAt.below {w w' : World} {S B m : Nat} {p : Nat → Bool} (F : FileAt w S B m p) (hb : Below w.heap.size w w') : FileAt w' S B m p :=
  ⟨cell_later hb F.s14, fun i hi j v hv => cell_later hb (F.rs i hi j v hv)⟩

set_option maxRecDepth 100000 in
set_option maxHeartbeats 800000 in
theorem index_any (w : World) (B m : Nat) (p : Nat → Bool) (hR : ∀ i, i < m → w.rangeAt B (i * 28) (rc (p i)).toList) (hm : m ≤ 65537) :
    Calls Try.prog 19 #[.slice (some ⟨B, 0, none⟩) m m, .func (.func 20) #[] #[]] w fun e w' => (∃ r, IsF m p r ∧ e = .returned (.int .i64 r)) ∧ Below w.heap.size w w' := by
  have HR := hide hR
  clear hR
  go_enter Try.func19, Try.ntmps19
  go_wp2
  go_loopw [8, 5] (fun s t wr => ∃ k : Nat, k ≤ m ∧ s = .int .i64 k ∧ (∀ i, i < k → p i = true) ∧ Below w.heap.size w wr) (fun s _ _ => m - (intOf s).toNat)
  case atStart => exact ⟨0, Nat.zero_le _, rfl, fun i hi => absurd hi (Nat.not_lt_zero _), Below.refl _ _⟩
  case round =>
    obtain ⟨k, hk, rfl, hp, hB⟩ := hrel
    have HP := hide hp
    have HB := hide hB
    clear hp hB
    by_cases hkm : k < m
    · have i0 : (0 : Int) ≤ (k : Int) := by omega
      have i1 : (k : Int) < (m : Int) := by omega
      have hc : wr.rangeAt B (k * 28) (rc (p k)).toList := fun j v hv => cell_later HB.out (HR.out k hkm j v hv)
      have HC := hide hc
      clear hc
      generalize hb : p k = b at *
      have HP' := hide hb
      clear hb
      cases b with
      | true =>
        go_wp2_with (first | (refine wpList_load_mid rfl 42 (.tmp 14) rfl B (k * 28) rfl (rc true).toList _ HC.out Try.underlying42 rfl (size42' true) ?_; rw [Array.toArray_toList]) | (go_at_call 20; refine (clo_any true _).mono ?_; rintro e w' ⟨rfl, rfl⟩))
        go_roundw
        case rel => exact ⟨k + 1, by omega, by go_num, fun i hi => by
                          if h : i < k then exact HP.out i h else rw [show i = k by omega]; exact HP'.out, HB.out.alloc HB.out.size _⟩
        case measure => simp [intOf]; omega
      | false =>
        go_wp2_with (first | (refine wpList_load_mid rfl 42 (.tmp 14) rfl B (k * 28) rfl (rc false).toList _ HC.out Try.underlying42 rfl (size42' false) ?_; rw [Array.toArray_toList]) | (go_at_call 20; refine (clo_any false _).mono ?_; rintro e w' ⟨rfl, rfl⟩))
        go_ret
        exact ⟨⟨(k : Int), Or.inr ⟨k, hkm, rfl, HP'.out, HP.out⟩, rfl⟩, HB.out.alloc HB.out.size _⟩
    · go_wp2
      go_ret
      exact ⟨⟨-1, Or.inl ⟨rfl, fun i hi => HP.out i (by omega)⟩, rfl⟩, HB.out⟩

theorem first_any (w : World) (S B m : Nat) (p : Nat → Bool) (F : FileAt w S B m p) (hm : m ≤ 65537) :
    Calls Try.prog 14 #[.pointer (some ⟨S, 0, none⟩)] w fun e w' => (∃ r, IsF m p r ∧ e = .returned (.int .i64 r)) ∧ Below w.heap.size w w' := by
  have s14 := F.s14
  have HI := hide (index_any w B m p F.rs hm)
  clear F
  go_enter Try.func14, Try.ntmps14
  go_wp2_with (first | (go_at_call 18; go_in) | (go_at_call 19; refine (HI.out).mono ?_; rintro e w' ⟨⟨r, hr, rfl⟩, hb⟩))
  go_ret
  exact ⟨⟨r, hr, rfl⟩, hb⟩

theorem made_there (w : World) (z : Array Value) (t : TypeId) (n x : Nat) (h : x < n) :
    ((w.alloc (.cells (madeCells z n) t)).cell? ⟨w.heap.size, x, none⟩).isSome = true ∧ (w.alloc (.cells (madeCells z n) t)).frozen? ⟨w.heap.size, x, none⟩ = false := by
  rw [World.cell?_alloc_at _ _ _ _ rfl, World.frozen?_alloc_at _ _ _ _ rfl]
  refine ⟨?_, rfl⟩
  rw [Array.getElem?_eq_getElem (by rw [size_madeCells]; exact h)]; rfl
theorem make31 (m : Nat) (hm : m ≤ 65537) (w : World) : (Instr.makeSlice 31 (.int .i64 (m : Int)) (.int .i64 (m : Int))).run Try.prog w =
    .ok (.slice (some ⟨w.heap.size, 0, none⟩) m m) (w.alloc (.cells (madeCells (rc false) (m * 28)) 42)) := by
  obtain ⟨i, hi, hz, hs, hb⟩ := info_parts info42
  have := run_make (P := Try.prog) w 31 42 i _ Try.underlying31 hi hz .i64 .i64 m m (by omega) (Int.le_refl _) (by rw [hb]; omega) (by omega)
  rw [this, hs]
  rfl
theorem build33 (v : Option Addr) (a b : Nat) (w : World) : (Instr.build 33 #[(14, .slice v a b)]).run Try.prog w =
    .ok (.agg #[.string ⟨#[]⟩, .pointer none, .string ⟨#[]⟩, .string ⟨#[]⟩, .string ⟨#[]⟩, .pointer none, .string ⟨#[]⟩, .string ⟨#[]⟩, .string ⟨#[]⟩, .string ⟨#[]⟩, .string ⟨#[]⟩, .slice none 0 0, .string ⟨#[]⟩, .bool false, .slice v a b]) w := run_build w 33 _ _ (by kernel_rfl)

theorem below_setCells {H : Nat} {w0 : World} : ∀ (vs : List Value) (o : Nat) (w : World), Below H w0 w → Below H w0 (w.setCells H o vs)
  | [], _, _, h => h
  | v :: r, o, w, h => below_setCells r (o + 1) _ (h.setCell (Nat.le_refl _) v)

theorem route_step (w wr : World) (m k : Nat) (p : Nat → Bool) (hkm : k < m) (hB : Below w.heap.size w wr)
    (hR : ∀ i, i < k → wr.rangeAt w.heap.size (i * 28) (rc (p i)).toList) (hC : ∀ i, i < m → wr.there w.heap.size (i * 28) 28) :
    Below w.heap.size w (wr.setCells w.heap.size (k * 28) (rc (p k)).toList) ∧ (∀ i, i < k + 1 → (wr.setCells w.heap.size (k * 28) (rc (p k)).toList).rangeAt w.heap.size (i * 28) (rc (p i)).toList) ∧
      (∀ i, i < m → (wr.setCells w.heap.size (k * 28) (rc (p k)).toList).there w.heap.size (i * 28) 28) := by
  have hl : ∀ b, (rc b).toList.length = 28 := fun b => rfl
  refine ⟨below_setCells _ _ _ hB, fun i hi => ?_, fun i hi => World.there_setCells (hC i hi) _ _ _⟩
  by_cases h : i < k
  · refine World.rangeAt_setCells_apart (hR i h) _ _ _ (Or.inr (Or.inl ?_))
    rw [hl]; omega
  · obtain rfl : i = k := by omega
    exact World.rangeAt_setCells_same wr w.heap.size (i * 28) _ (by rw [hl]; exact hC i hkm)

/-- A route is stored: the law of the library with its size written out. -/
theorem store28 {ops : Array Oper} {rest : List Oper} {op : Oper} {a : Act} {w : World} {Q : Exit → Act → World → Prop} (hgd : op.guard = none) (x y : Operand) (ho : op.op = .store 42 x y)
    (b o : Nat) (cells : Array Value) (hx : a.eval x = .pointer (some ⟨b, o, none⟩)) (hy : a.eval y = .agg cells) (c : Bool) (hc : cells = rc c)
    (ht : w.there b o 28) (h : wpList Try.prog ops Q rest (a.put op.dst undef) (w.setCells b o (rc c).toList)) : wpList Try.prog ops Q (op :: rest) a w := by
  subst hc
  exact wpList_store_mid hgd 42 x y ho b o (rc c) hx hy ht (size42 c) (rc_one c) h

set_option maxRecDepth 100000 in
set_option maxHeartbeats 800000 in
theorem file_any (w : World) (a : Option Addr) (m c : Nat) (p : Nat → Bool) (hS : Sl w a m p) (hm : m ≤ 65537) :
    Calls Try.prog 8 #[.slice a m c] w fun e w' => ∃ S B, e = .returned (.pointer (some ⟨S, 0, none⟩)) ∧ FileAt w' S B m p ∧ Below w.heap.size w w' := by
  have mk := make31 m hm
  have b33 := build33
  have HS := hide hS
  clear hS
  go_enter Try.func8, Try.ntmps8
  go_wp2
  go_loopw [4] (fun i wr => ∃ k : Nat, k ≤ m ∧ i = .int .i64 k ∧ Below w.heap.size w wr ∧ (∀ i, i < k → wr.rangeAt w.heap.size (i * 28) (rc (p i)).toList) ∧ (∀ i, i < m → wr.there w.heap.size (i * 28) 28)) (fun i _ => m - (intOf i).toNat)
  case atStart => exact ⟨0, Nat.zero_le _, rfl, (Below.refl _ _).alloc (Nat.le_refl _) _, fun i hi => absurd hi (Nat.not_lt_zero _), fun i hi j hj => made_there w _ 42 (m * 28) (i * 28 + j) (by omega)⟩
  case round =>
    obtain ⟨k, hk, rfl, hB, hR, hC⟩ := hrel
    by_cases hkm : k < m
    · obtain ⟨b, o, rfl, q⟩ := HS.out k hkm
      have i0 : (0 : Int) ≤ (k : Int) := by omega
      have i1 : (k : Int) < (m : Int) := by omega
      have q' := cell_later hB q
      have RS := hide (route_step w wr m k p hkm hB hR hC)
      have HC := hide (hC k hkm)
      clear hB hR hC q
      go_wp2_with ((with_reducible refine store28 ?_ (.tmp 21) (.tmp 20) ?_ w.heap.size (k * 28) (rc (p k)) ?_ ?_ (p k) rfl HC.out ?_); rfl; rfl; rfl; rfl)
      go_roundw
      case rel => exact ⟨k + 1, by omega, by go_num, RS.out⟩
      case measure => simp [intOf]; omega
    · obtain rfl : k = m := by omega
      have HB := hide hB
      have HR := hide hR
      clear hB hR hC
      go_wp2
      go_ret
      refine ⟨_, _, rfl, ⟨?_, fun i hi j v hv => cell_new _ (HR.out i hi j v hv)⟩, HB.out.alloc HB.out.size _⟩
      rw [World.cell?_alloc_at _ _ _ _ rfl]; rfl
end Go.Proofs.Qxb6614736a
