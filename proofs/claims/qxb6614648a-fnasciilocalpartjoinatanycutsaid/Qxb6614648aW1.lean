import Derived.Test.Qxb6614648aRows
import Derived.WalkKit
import Derived.WalkSpells
import Derived.WalkLawsBesides
import Derived.RowKit3
import Derived.Laws.Concat
import Derived.Laws.BytesString
namespace Go.Proofs.Qxb6614648a
open Go.RowKit
set_option linter.unusedVariables false

theorem hide {p : Prop} (h : p) : Hid p := h
theorem bool_of {a b : Bool} (h : a = b) : Ending.returned (.bool a) = .returned (.bool b) := by rw [h]

/-- All octets are below 128. -/
def asc (l : List UInt8) : Bool := l.all fun c => decide (c.toNat < 128)
/-- The octets below 128. -/
def strip (l : List UInt8) : List UInt8 := l.filter fun c => decide (c.toNat < 128)

theorem asc_append (a b : List UInt8) : asc (a ++ b) = (asc a && asc b) := by simp [asc]
theorem strip_eq (l : List UInt8) : (strip l == l) = asc l := by
  rw [Bool.eq_iff_iff]
  simp only [strip, asc, beq_iff_eq, List.filter_eq_self, List.all_eq_true]
theorem asc_strip (l : List UInt8) : asc (strip l) = true := by
  simp [asc, strip]
theorem take_snoc (s : ByteArray) (k : Nat) (h : k < s.size) : s.data.toList.take (k + 1) = s.data.toList.take k ++ [s[k]] := by
  rw [List.take_succ_eq_append_getElem (by simpa using h)]; rfl
theorem asc_take (s : ByteArray) (k : Nat) (h : k < s.size) : asc (s.data.toList.take (k + 1)) = (asc (s.data.toList.take k) && decide (s[k].toNat < 128)) := by
  rw [take_snoc s k h, asc_append]; simp [asc]
theorem asc_high (s : ByteArray) (k : Nat) (h : k < s.size) (hc : ¬ s[k].toNat < 128) : asc s.data.toList = false := by
  have e := List.take_append_drop (k + 1) s.data.toList
  rw [← e, asc_append, asc_take s k h]
  simp [hc]
theorem strip_take (s : ByteArray) (k : Nat) (h : k < s.size) : strip (s.data.toList.take (k + 1)) = strip (s.data.toList.take k) ++ (if s[k].toNat < 128 then [s[k]] else []) := by
  rw [take_snoc s k h]
  unfold strip
  rw [List.filter_append]
  by_cases hc : s[k].toNat < 128 <;> simp [hc]

theorem ascii_any (s : ByteArray) (w : World) (hs : s.size ≤ maxLen) :
    Calls Try.prog 11 #[.string s] w fun e w' => e = .returned (.bool (asc s.data.toList)) ∧ w' = w := by
  unfold maxLen at hs
  go_enter Try.func11, Try.ntmps11
  go_wp2
  go_loop [3] (fun i => ∃ k : Nat, k ≤ s.size ∧ i = .int .i64 k ∧ asc (s.data.toList.take k) = true) (fun i => s.size - (intOf i).toNat)
  case atStart => exact ⟨0, Nat.zero_le _, rfl, rfl⟩
  case round =>
    obtain ⟨k, hk, rfl, ha⟩ := hrel
    have HA := hide ha
    clear ha
    by_cases hlt : k < s.size
    · by_cases hc : s[k].toNat < 128
      · have hc' : ¬ (128 : Int) ≤ (s[k].toNat : Int) := by omega
        go_wp2
        go_round
        case rel => exact ⟨k + 1, by omega, by go_num, by rw [asc_take s k hlt, HA.out]; simpa using hc⟩
        case measure => simp [intOf]; omega
      · have hc' : (128 : Int) ≤ (s[k].toNat : Int) := by omega
        have HF := hide (asc_high s k hlt hc)
        clear hc
        go_wp2
        go_ret
        exact ⟨bool_of HF.out.symm, rfl⟩
    · go_wp2
      go_ret
      have e : s.data.toList.take k = s.data.toList := List.take_of_length_le (by simp; omega)
      exact ⟨bool_of (by rw [← e]; exact HA.out.symm), rfl⟩

theorem mail_any (a d : ByteArray) (w : World) (hs : a.size ≤ maxLen) :
    Calls Try.prog 6 #[.agg #[.string a, .string d]] w fun e w' => e = .returned (.bool (asc a.data.toList)) ∧ w' = (w.alloc (.cells #[.string a, .string d] 25)).alloc (.cells #[.string a, .string d] 25) := by
  go_enter Try.func6, Try.ntmps6
  go_wp2_with (first | (go_at_call 10; go_in) | (go_at_call 11; refine (ascii_any a _ hs).mono ?_; rintro e w' ⟨rfl, rfl⟩))
  go_ret
  exact ⟨rfl, rfl⟩
theorem build25 (a d : ByteArray) (w : World) : (Instr.build 25 #[(0, .string a), (1, .string d)]).run Try.prog w = .ok (.agg #[.string a, .string d]) w := run_build w 25 _ _ (by kernel_rfl)
theorem newm_any (a d : ByteArray) (w : World) :
    Calls Try.prog 7 #[.string a, .string d] w fun e w' => e = .returned (.agg #[.string a, .string d]) ∧ w' = w.alloc (.cells #[.string a, .string d] 25) := by
  have b := build25
  go_enter Try.func7, Try.ntmps7
  go_wp2
  exact bodyPost_ret (v := .agg #[.string a, .string d]) (by simp [results, Try.results7, go_sem]) rfl ⟨rfl, rfl⟩
theorem bytesA_any (a b d : ByteArray) (w : World) (h0 : a.size ≤ maxLen) (h1 : b.size ≤ maxLen) (h2 : d.size ≤ maxLen) :
    Calls Try.prog 5 #[.string a, .string b, .string d] w fun e w' => (∃ b, e = .returned (.bool b)) ∧ w' = w := by
  unfold maxLen at *
  go_enter Try.func5, Try.ntmps5
  go_wp2
  all_goals (go_ret; exact ⟨⟨_, rfl⟩, rfl⟩)
theorem bytesB_any (a b d : ByteArray) (c : Int) (w : World) (h0 : a.size ≤ maxLen) (h1 : b.size ≤ maxLen) (h2 : d.size ≤ maxLen) :
    Calls Try.prog 9 #[.string a, .string b, .string d, .int .u8 c] w fun e w' => (∃ b, e = .returned (.bool b)) ∧ w' = w := by
  unfold maxLen at *
  go_enter Try.func9, Try.ntmps9
  go_wp2
  all_goals (go_ret; exact ⟨⟨_, rfl⟩, rfl⟩)
end Go.Proofs.Qxb6614648a
