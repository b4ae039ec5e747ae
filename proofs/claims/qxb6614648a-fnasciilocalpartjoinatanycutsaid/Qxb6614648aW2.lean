import Derived.Test.Qxb6614648aW1
import Derived.OwnWalk
import Derived.Maps.AppendAt
import Derived.Laws.OwnMore
namespace Go.Proofs.Qxb6614648a
open Go.RowKit
set_option linter.unusedVariables false

theorem info5 : (Try.prog.info? 5).map (fun i => (i.zero, i.size, i.bytes)) = some (some (.int .u8 0), 1, 1) := by kernel_rfl
/-- A list of octets as cells. -/
def cellsOf (l : List UInt8) : List Value := l.map fun c => .int .u8 (c.toNat : Int)
theorem len_cells (l : List UInt8) : (cellsOf l).length = l.length := by simp [cellsOf]
theorem cells_append (a b : List UInt8) : cellsOf (a ++ b) = cellsOf a ++ cellsOf b := by simp [cellsOf]
theorem strip_len (l : List UInt8) : (strip l).length ≤ l.length := List.length_filter_le _ _

/-- string(out) of an owned row of octets. -/
theorem str_run (w : World) (base g cap : Nat) (l : List UInt8) (h : w.ownsRow base 5 1 (.slice (some ⟨g, 0, none⟩) l.length cap) l.length (cellsOf l)) :
    (convert 29 9 (.slice (some ⟨g, 0, none⟩) l.length cap)).run Try.prog w = .ok (.string ⟨l.toArray⟩) w := by
  rw [run_convert_bytes_string w 29 9 5 _ _ _ Try.underlying29 Try.underlying5 Try.underlying9]
  have hl := run_loadCells_list (P := Try.prog) w ⟨g, 0, none⟩ (cellsOf l) (fun j v hv => by
    have hj : j < l.length := by have := (List.getElem?_eq_some_iff.1 hv).1; rwa [len_cells] at this
    have := h.cellAt j (by omega)
    have e : (⟨g, 0, none⟩ : Addr).add j = ⟨g, j, none⟩ := by unfold Addr.add; split <;> simp_all
    rw [e, this, hv])
  rw [len_cells] at hl
  have e : cellsOf l = (l.map fun c => (c.toNat : Int)).map (Value.int .u8) := by simp [cellsOf]
  rw [e] at hl
  rw [run_bytesToString w ⟨g, 0, none⟩ l.length cap _ hl]
  congr 2
  have gen : ∀ (l : List UInt8) (r : ByteArray), (l.map fun c => (c.toNat : Int)).foldl (fun r n => r.push (UInt8.ofNat n.toNat)) r = ⟨r.data ++ l.toArray⟩ := by
    intro l
    induction l with
    | nil => intro r; simp
    | cons c l ih =>
      intro r
      simp only [List.map_cons, List.foldl_cons]
      rw [ih]
      simp [ByteArray.push]
  rw [gen]
  show (⟨#[] ++ l.toArray⟩ : ByteArray) = ⟨l.toArray⟩
  rw [Array.empty_append]

set_option maxHeartbeats 800000 in
theorem strip_any (s : ByteArray) (w : World) (hs : s.size ≤ 1048576) :
    Calls Try.prog 8 #[.string s] w fun e w' => e = .returned (.string ⟨(strip s.data.toList).toArray⟩) ∧ Below w.heap.size w w' := by
  obtain ⟨i0, hi, hz0, hz1, hz2⟩ := info_parts info5
  go_enter Try.func8, Try.ntmps8
  go_wp2_with (at_make; refine wpList_make_own _ rfl _ _ 29 rfl w.heap.size 5 i0 (.int .u8 0) 1 Try.underlying29 hi hz0 hz1 .i64 .i64 _ s.size rfl rfl rfl (by rw [hz2]; omega) (by unfold maxLen; omega) (Nat.le_refl _) ?_; intro w1 hown hgrow)
  have hb1 : Below w.heap.size w w1 := (Below.refl _ _).grown hgrow (Nat.le_refl _) (fun k h => by cases h)
  clear hgrow
  go_loopw [3, 4] (fun v i wr => ∃ k : Nat, k ≤ s.size ∧ i = .int .i64 k ∧ v = .slice (some ⟨w.heap.size, 0, none⟩) (strip (s.data.toList.take k)).length s.size ∧
      wr.ownsRow w.heap.size 5 1 (.slice (some ⟨w.heap.size, 0, none⟩) (strip (s.data.toList.take k)).length s.size) (strip (s.data.toList.take k)).length (cellsOf (strip (s.data.toList.take k))) ∧ Below w.heap.size w wr) (fun _ i _ => s.size - (intOf i).toNat)
  case atStart => exact ⟨0, Nat.zero_le _, rfl, rfl, hown, hb1⟩
  case round =>
    obtain ⟨k, hk, rfl, rfl, ho, hb⟩ := hrel
    clear hown hb1
    have hn : (strip (s.data.toList.take k)).length ≤ k := Nat.le_trans (strip_len _) (List.length_take_le _ _)
    by_cases hlt : k < s.size
    · have hst := strip_take s k hlt
      by_cases hc : s[k].toNat < 128
      · rw [if_pos hc] at hst
        have HS := hide hst
        have hc' : (s[k].toNat : Int) < 128 := by omega
        clear hst hc
        generalize strip (s.data.toList.take k) = L at *
        go_wp2_with (at_builtin; refine wpList_append_fits _ rfl (.tmp 18) (.tmp 22) 29 rfl w.heap.size 5 i0 1 Try.underlying29 hi hz1 w.heap.size L.length s.size (cellsOf L) rfl (ho.alloc _) ⟨wr.heap.size, 0, none⟩ 1 1 [.int .u8 (s[k].toNat : Int)] rfl rfl (cell_one_new _ _ _) (by simp; rfl) (by omega) ?_; intro w2 ho2 hg2)
        go_roundw
        case rel =>
          have hs2 : wr.heap.size + 1 = (wr.alloc (Obj.cells #[Value.int IntKind.u8 (s[k].toNat : Int)] 5)).heap.size := by simp
          refine ⟨k + 1, by omega, by go_num, by rw [HS.out, List.length_append]; rfl, ?_, (hb.alloc hb.size _).grown hg2 (by rw [← hs2]; have := hb.size; omega) (fun j h => by cases h; exact Nat.le_refl _)⟩
          rw [HS.out, List.length_append, cells_append]
          exact ho2
        case measure => simp [intOf]; omega
      · rw [if_neg hc, List.append_nil] at hst
        have HS := hide hst
        have hc' : ¬ (s[k].toNat : Int) < 128 := by omega
        clear hst hc
        generalize strip (s.data.toList.take k) = L at *
        go_wp2
        go_roundw
        case rel => exact ⟨k + 1, by omega, by go_num, by rw [HS.out], by rw [HS.out]; exact ho, hb⟩
        case measure => simp [intOf]; omega
    · have HE := hide (show strip (s.data.toList.take k) = strip s.data.toList by rw [List.take_of_length_le (by simp; omega)])
      have hst := str_run wr w.heap.size w.heap.size s.size _ ho
      have HB := hide hb
      clear ho hb hn
      generalize strip (s.data.toList.take k) = L at *
      go_wp2
      go_ret
      exact ⟨by rw [← HE.out]; rfl, HB.out⟩
end Go.Proofs.Qxb6614648a
