import Derived.Test.Qxb6608940aWc
namespace Go.Proofs.Qxb6608940a
open Go.RowKit
set_option linter.unusedVariables false

theorem Sl.from {w : World} {p o m : Nat} {f : Nat → Value} (h : Sl w (some ⟨p, o, none⟩) m f) (K : Nat) (hK : K ≤ m) : Sl w (some ⟨p, o + K, none⟩) (m - K) (fun i => f (K + i)) := fun i hi => by
  obtain ⟨b, q, e, hc⟩ := h (K + i) (by omega)
  cases e
  refine ⟨p, o + K, rfl, ?_⟩
  rw [Nat.add_assoc]; exact hc
theorem Sl.upto {w : World} {a : Option Addr} {m : Nat} {f : Nat → Value} (h : Sl w a m f) (n : Nat) (hn : n ≤ m) : Sl w a n f := fun i hi => h i (by omega)
theorem Sl.drew {w : World} {a : Option Addr} {m : Nat} {f : Nat → Value} (h : Sl w a m f) : Sl w.drew a m f := h

theorem Ok.suffix {m : Nat} {nx ed : Int} {st en : Nat → Int} (h : Ok m nx ed st en) (hlt : nx < ed) {K : Nat} (hK : First m en nx K) : Ok (m - K) nx ed (fun i => st (K + i)) (fun i => en (K + i)) := by
  have hKm := h.inside hlt hK
  refine ⟨h.le, fun h0 => by omega, fun i hi => h.pos (K + i) (by omega), fun i h0 hi => ?_, fun _ => ?_, fun _ => ?_⟩
  · have := h.seq (K + i) (by omega) (by omega)
    show st (K + i) = en (K + (i - 1))
    rw [this]; congr 1; omega
  · show st (K + 0) ≤ nx
    by_cases h0 : K = 0
    · subst h0; exact h.fst (by omega)
    · have h1 := h.seq K (by omega) hKm
      have h2 := hK.2.1 (K - 1) (by omega)
      rw [Nat.add_zero, h1]; exact h2
  · show ed = en (K + (m - K - 1))
    rw [show K + (m - K - 1) = m - 1 by omega]; exact h.lst (by omega)
theorem First.suffix {m : Nat} {nx : Int} {en : Nat → Int} {K : Nat} (hK : First m en nx K) : First (m - K) (fun i => en (K + i)) nx 0 :=
  ⟨Nat.zero_le _, fun t ht => absurd ht (Nat.not_lt_zero _), fun h => hK.2.2 (by omega)⟩
theorem Ok.prefix {m : Nat} {nx ed : Int} {st en : Nat → Int} (h : Ok m nx ed st en) (hlt : nx < ed) {K : Nat} (hK : First m en nx K) : Ok (K + 1) nx (en K) st en := by
  have hKm := h.inside hlt hK
  have h1 := hK.2.2 hKm
  exact ⟨by omega, fun h0 => by omega, fun i hi => h.pos i (by omega), fun i h0 hi => h.seq i h0 (by omega), fun _ => h.fst (by omega), fun _ => by simp⟩
theorem First.prefix {m : Nat} {nx : Int} {en : Nat → Int} {K : Nat} (hK : First m en nx K) (hKm : K < m) : First (K + 1) en nx K :=
  ⟨by omega, hK.2.1, fun _ => hK.2.2 hKm⟩
theorem ans_in {nx ed ed' lm st en d : Int} {on gv : Bool} (h : nx < ed) (h' : nx < ed') : ans nx ed lm st en d on gv = ans nx ed' lm st en d on gv := by
  have e1 : decide (nx < ed) = true := by simpa using h
  have e2 : decide (nx < ed') = true := by simpa using h'
  unfold ans; rw [e1, e2]
theorem ans_out {nx ed lm st en d : Int} {on gv : Bool} (h : ¬ nx < ed) : ans nx ed lm st en d on gv = false := by
  have e1 : decide (nx < ed) = false := by simpa using h
  unfold ans; rw [e1]; rfl
theorem ans_facts {nx ed lm st en d : Int} {on gv : Bool} (h : nx < ed) :
    (gv = true → ans nx ed lm st en d on gv = false) ∧ (gv = false → d = 0 → on = false → ans nx ed lm st en d on gv = decide (lm ≤ nx)) ∧ (gv = false → lm ≤ nx → ans nx ed lm st en d on gv = true) ∧
    (gv = false → ans nx ed lm st en d on gv = true → ¬ lm ≤ nx → lm < en) := by
  have e1 : decide (nx < ed) = true := by simpa using h
  unfold ans waitB
  rw [e1]
  refine ⟨fun hg => ?_, fun hg hd ho => ?_, fun hg hl => ?_, fun hg hx hn => ?_⟩
  · subst hg; rfl
  · subst hg hd ho; simp
  · subst hg; simp [hl]
  · subst hg
    have e2 : decide (lm ≤ nx) = false := by simpa using hn
    rw [e2] at hx
    simp at hx
    exact hx.1

set_option maxRecDepth 1000000 in
set_option maxHeartbeats 8000000 in
/-- Nothing is left to send. -/
theorem u2_none (w0 w6 : World) (nx ed lm : Int) (st en d : Nat → Int) (on gv : Nat → Bool) (b0 b1 b2 b3 b4 : Option Addr) (l4 e0 e1 e2 e3 e4 : Nat) (F6 : Five w6 b0 b1 b2 b3 b4 l4 st en d on gv)
    (HB6 : Hid (Below w0.heap.size w0 w6)) (HOK : Hid (Ok l4 nx ed st en)) (hm : l4 ≤ 32768) (HU0 : Hid (∀ i, i < l4 → 0 ≤ st i)) (HU1 : Hid (∀ i, i < l4 → en i ≤ 18446744073709551615))
    (HD : Hid (∀ i, i < l4 → -9223372036854775808 ≤ d i ∧ d i ≤ 9223372036854775807)) (hc0 : l4 ≤ e0) (hc1 : l4 ≤ e1) (hc2 : l4 ≤ e2) (hc3 : l4 ≤ e3) (hc4 : l4 ≤ e4) (hlt : ed ≤ nx) (u8 u9 u10 u11 u12 u13 u14 u15 u16 u17 u18 u19 u20 u21 u22 u23 u24 u25 u26 u27 u28 u29 u30 u31 u32 u33 u34 u35 u36 u37 u38 u39 u40 u41 u42 u43 u44 u45 u46 u47 u48 u49 u50 u51 u52 u53 u54 u55 u56 u57 u58 u59 u60 u61 u62 u63 u64 u65 u66 u67 u68 u69 u70 u71 u72 u73 u74 u75 u76 u77 u78 u79 u80 u81 u82 u83 u84 u85 u86 u87 u88 u89 u90 u91 u92 u93 u94 u95 u96 u97 u98 u99 u100 u101 u102 u103 u104 u105 u106 u107 u108 u109 u110 u111 u112 u113 u114 u115 u116 u117 u118 u119 u120 u121 u122 u123 u124 u125 u126 u127 u128 u129 u130 u131 u132 u133 u134 u135 u136 u137 u138 u139 u140 u141 u142 u143 u144 u145 u146 u147 u148 u149 u150 u151 u152 u153 u154 u155 u156 u157 u158 u159 u160 u161 u162 u163 u164 u165 u166 u167 u168 u169 u170 u171 u172 u173 u174 u175 u176 u177 u178 u179 u180 u181 u182 u183 u184 u185 u186 u187 u188 u189 u190 u191 u192 u193 u194 u195 u196 u197 u198 u199 u200 u201 u202 u203 u204 u205 u206 u207 u208 u209 u210 u211 u212 u213 u214 u215 u216 u217 u218 u219 u220 u221 u222 u223 : Value) :
    Code.wp Try.prog (tailOf 9 (Try.f7.body.getD .skip)) (bodyPost Try.prog Try.f7 fun e w' => e = .returned (.bool true) ∧ Below w0.heap.size w0 w') ⟨#[.slice b0 l4 e0, .slice b1 l4 e1, .slice b2 l4 e2, .slice b3 l4 e3, .slice b4 l4 e4, .int .u64 nx, .int .u64 ed, .int .u64 lm, u8, u9, u10, u11, u12, u13, u14, u15, u16, u17, u18, u19, u20, u21, u22, u23, u24, u25, u26, u27, u28, u29, u30, u31, u32, u33, u34, u35, u36, u37, u38, u39, u40, u41, u42, u43, u44, u45, u46, u47, u48, u49, u50, u51, u52, u53, u54, u55, u56, u57, u58, u59, u60, u61, u62, u63, u64, u65, u66, u67, u68, u69, u70, u71, u72, u73, u74, u75, u76, u77, u78, u79, u80, u81, u82, u83, u84, u85, u86, u87, u88, u89, u90, u91, u92, u93, u94, u95, u96, u97, u98, u99, u100, u101, u102, u103, u104, u105, u106, u107, u108, u109, u110, u111, u112, u113, u114, u115, u116, u117, u118, u119, u120, u121, u122, u123, u124, u125, u126, u127, u128, u129, u130, u131, u132, u133, u134, u135, u136, u137, u138, u139, u140, u141, u142, u143, u144, u145, u146, u147, u148, u149, u150, u151, u152, u153, u154, u155, u156, u157, u158, u159, u160, u161, u162, u163, u164, u165, u166, u167, u168, u169, u170, u171, u172, u173, u174, u175, u176, u177, u178, u179, u180, u181, u182, u183, u184, u185, u186, u187, u188, u189, u190, u191, u192, u193, u194, u195, u196, u197, u198, u199, u200, u201, u202, u203, u204, u205, u206, u207, u208, u209, u210, u211, u212, u213, u214, u215, u216, u217, u218, u219, u220, u221, u222, u223], []⟩ w6 := by
  conv => arg 2; whnf
  dsimp only
  obtain ⟨K, hK⟩ := first_ex en nx l4
  have hu : ∀ i, i < l4 → 0 ≤ st i ∧ en i ≤ 18446744073709551615 := fun i hi => ⟨HU0.out i hi, HU1.out i hi⟩
  have HK := hide hK
  have HU := hide hu
  clear hK hu
  have HN1 := hide (new_any w6 l4 nx ed lm st en d on gv b0 b1 b2 b3 b4 e0 e1 e2 e3 e4 F6.h0 F6.h1 F6.h2 F6.h3 F6.h4 HD.out hm)
  go_wp2_with fail
  refine HN1.out.mono ?_
  rintro e w7 ⟨S1, B1, rfl, T1, hB7⟩
  have HZ1 : Hid (Calls Try.prog 18 #[.pointer (some ⟨S1, 0, none⟩)] w7 fun e w' => e = .returned (.bool false) ∧ Below w7.heap.size w7 w') := by
    have := zw_any w7 S1 B1 l4 nx ed lm st en d on gv T1 hm HOK.out HU.out K HK.out
    rwa [ans_out (by omega)] at this
  clear HN1 T1
  go_wp2_with fail
  refine HZ1.out.mono ?_
  rintro e w8 ⟨rfl, hB8⟩
  go_wp2_with fail
  go_ret
  exact ⟨rfl, (HB6.out.trans (hB7.mono HB6.out.size)).trans (hB8.mono (Nat.le_trans HB6.out.size hB7.size))⟩

set_option maxRecDepth 1000000 in
set_option maxHeartbeats 8000000 in
/-- Something is left to send. -/
theorem u2_some (w0 w6 : World) (nx ed lm : Int) (st en d : Nat → Int) (on gv : Nat → Bool) (b0 b1 b2 b3 b4 : Option Addr) (l4 e0 e1 e2 e3 e4 : Nat) (F6 : Five w6 b0 b1 b2 b3 b4 l4 st en d on gv)
    (HB6 : Hid (Below w0.heap.size w0 w6)) (HOK : Hid (Ok l4 nx ed st en)) (hm : l4 ≤ 32768) (HU0 : Hid (∀ i, i < l4 → 0 ≤ st i)) (HU1 : Hid (∀ i, i < l4 → en i ≤ 18446744073709551615))
    (HD : Hid (∀ i, i < l4 → -9223372036854775808 ≤ d i ∧ d i ≤ 9223372036854775807)) (hc0 : l4 ≤ e0) (hc1 : l4 ≤ e1) (hc2 : l4 ≤ e2) (hc3 : l4 ≤ e3) (hc4 : l4 ≤ e4) (hlt : nx < ed) (u8 u9 u10 u11 u12 u13 u14 u15 u16 u17 u18 u19 u20 u21 u22 u23 u24 u25 u26 u27 u28 u29 u30 u31 u32 u33 u34 u35 u36 u37 u38 u39 u40 u41 u42 u43 u44 u45 u46 u47 u48 u49 u50 u51 u52 u53 u54 u55 u56 u57 u58 u59 u60 u61 u62 u63 u64 u65 u66 u67 u68 u69 u70 u71 u72 u73 u74 u75 u76 u77 u78 u79 u80 u81 u82 u83 u84 u85 u86 u87 u88 u89 u90 u91 u92 u93 u94 u95 u96 u97 u98 u99 u100 u101 u102 u103 u104 u105 u106 u107 u108 u109 u110 u111 u112 u113 u114 u115 u116 u117 u118 u119 u120 u121 u122 u123 u124 u125 u126 u127 u128 u129 u130 u131 u132 u133 u134 u135 u136 u137 u138 u139 u140 u141 u142 u143 u144 u145 u146 u147 u148 u149 u150 u151 u152 u153 u154 u155 u156 u157 u158 u159 u160 u161 u162 u163 u164 u165 u166 u167 u168 u169 u170 u171 u172 u173 u174 u175 u176 u177 u178 u179 u180 u181 u182 u183 u184 u185 u186 u187 u188 u189 u190 u191 u192 u193 u194 u195 u196 u197 u198 u199 u200 u201 u202 u203 u204 u205 u206 u207 u208 u209 u210 u211 u212 u213 u214 u215 u216 u217 u218 u219 u220 u221 u222 u223 : Value) :
    Code.wp Try.prog (tailOf 9 (Try.f7.body.getD .skip)) (bodyPost Try.prog Try.f7 fun e w' => e = .returned (.bool true) ∧ Below w0.heap.size w0 w') ⟨#[.slice b0 l4 e0, .slice b1 l4 e1, .slice b2 l4 e2, .slice b3 l4 e3, .slice b4 l4 e4, .int .u64 nx, .int .u64 ed, .int .u64 lm, u8, u9, u10, u11, u12, u13, u14, u15, u16, u17, u18, u19, u20, u21, u22, u23, u24, u25, u26, u27, u28, u29, u30, u31, u32, u33, u34, u35, u36, u37, u38, u39, u40, u41, u42, u43, u44, u45, u46, u47, u48, u49, u50, u51, u52, u53, u54, u55, u56, u57, u58, u59, u60, u61, u62, u63, u64, u65, u66, u67, u68, u69, u70, u71, u72, u73, u74, u75, u76, u77, u78, u79, u80, u81, u82, u83, u84, u85, u86, u87, u88, u89, u90, u91, u92, u93, u94, u95, u96, u97, u98, u99, u100, u101, u102, u103, u104, u105, u106, u107, u108, u109, u110, u111, u112, u113, u114, u115, u116, u117, u118, u119, u120, u121, u122, u123, u124, u125, u126, u127, u128, u129, u130, u131, u132, u133, u134, u135, u136, u137, u138, u139, u140, u141, u142, u143, u144, u145, u146, u147, u148, u149, u150, u151, u152, u153, u154, u155, u156, u157, u158, u159, u160, u161, u162, u163, u164, u165, u166, u167, u168, u169, u170, u171, u172, u173, u174, u175, u176, u177, u178, u179, u180, u181, u182, u183, u184, u185, u186, u187, u188, u189, u190, u191, u192, u193, u194, u195, u196, u197, u198, u199, u200, u201, u202, u203, u204, u205, u206, u207, u208, u209, u210, u211, u212, u213, u214, u215, u216, u217, u218, u219, u220, u221, u222, u223], []⟩ w6 := by
  conv => arg 2; whnf
  dsimp only
  obtain ⟨K, hK⟩ := first_ex en nx l4
  have hKm := HOK.out.inside hlt hK
  have hu : ∀ i, i < l4 → 0 ≤ st i ∧ en i ≤ 18446744073709551615 := fun i hi => ⟨HU0.out i hi, HU1.out i hi⟩
  obtain ⟨p0, o0, rfl, q0⟩ := F6.h0 K hKm
  obtain ⟨p1, o1, rfl, q1⟩ := F6.h1 K hKm
  obtain ⟨p2, o2, rfl, q2⟩ := F6.h2 K hKm
  obtain ⟨p3, o3, rfl, q3⟩ := F6.h3 K hKm
  obtain ⟨p4, o4, rfl, q4⟩ := F6.h4 K hKm
  clear q0 q1 q2 q3 q4
  obtain ⟨x, hx⟩ : ∃ x, ans nx ed lm (st K) (en K) (d K) (on K) (gv K) = x := ⟨_, rfl⟩
  have HF : Hid ((gv K = true → x = false) ∧ (gv K = false → d K = 0 → on K = false → x = decide (lm ≤ nx)) ∧ (gv K = false → lm ≤ nx → x = true) ∧ (gv K = false → x = true → ¬ lm ≤ nx → lm < en K)) := by
    rw [← hx]; exact ans_facts hlt
  have HX := hide hx
  have HK := hide hK
  have HU := hide hu
  have HNE := hide (hK.2.2 hKm)
  clear hx hK hu HU0 HU1
  have i0 : (0 : Int) ≤ (K : Int) := by omega
  have i1 : (K : Int) < (l4 : Int) := by omega
  have i2 : (K : Int) ≤ (l4 : Int) := by omega
  have HN1 := hide (new_any w6 l4 nx ed lm st en d on gv _ _ _ _ _ e0 e1 e2 e3 e4 F6.h0 F6.h1 F6.h2 F6.h3 F6.h4 HD.out hm)
  go_wp2_with fail
  refine HN1.out.mono ?_
  rintro e w7 ⟨S1, B1, rfl, T1, hB7⟩
  have HZ1 : Hid (Calls Try.prog 18 #[.pointer (some ⟨S1, 0, none⟩)] w7 fun e w' => e = .returned (.bool x) ∧ Below w7.heap.size w7 w') := by
    rw [← HX.out]; exact zw_any w7 S1 B1 l4 nx ed lm st en d on gv T1 hm HOK.out HU.out K HK.out
  clear HN1 T1
  go_wp2_with fail
  refine HZ1.out.mono ?_
  rintro e w8 ⟨rfl, hB8⟩
  have F8 := (F6.below hB7).below hB8
  have HB8 : Hid (Below w0.heap.size w0 w8) := (HB6.out.trans (hB7.mono HB6.out.size)).trans (hB8.mono (Nat.le_trans HB6.out.size hB7.size))
  clear HZ1 F6 HB6 hB7 hB8
  have HS := hide (scan_any w8 l4 nx en _ e1 F8.h1 hm)
  go_wp2_with fail
  refine HS.out.mono ?_
  rintro e w9 ⟨⟨K', hK', rfl⟩, hn⟩
  obtain rfl : K = K' := HK.out.uniq hK'
  have hB9 : Below w8.heap.size w8 w9 := by
    obtain ⟨n, rfl⟩ := hn
    exact below_drewN n
  have F9 := F8.below hB9
  have HB9 : Hid (Below w0.heap.size w0 w9) := HB8.out.trans (hB9.mono HB8.out.size)
  clear HS hn hK' hB9 F8 HB8
  go_wp2_with fail
  have ne0 : ¬ e0 = K := by omega
  have ne1 : ¬ e1 = K := by omega
  have ne2 : ¬ e2 = K := by omega
  have ne3 : ¬ e3 = K := by omega
  have ne4 : ¬ e4 = K := by omega
  have HN2 := hide (new_any w9.drew (l4 - K) nx ed lm (fun i => st (K + i)) (fun i => en (K + i)) (fun i => d (K + i)) (fun i => on (K + i)) (fun i => gv (K + i)) _ _ _ _ _ (e0 - K) (e1 - K) (e2 - K) (e3 - K) (e4 - K)
    (F9.h0.drew.from K (by omega)) (F9.h1.drew.from K (by omega)) (F9.h2.drew.from K (by omega)) (F9.h3.drew.from K (by omega)) (F9.h4.drew.from K (by omega)) (fun i hi => HD.out (K + i) (by omega)) (by omega))
  have HZ2 : Hid (∀ w S B, Strm w S B (l4 - K) nx ed lm (fun i => st (K + i)) (fun i => en (K + i)) (fun i => d (K + i)) (fun i => on (K + i)) (fun i => gv (K + i)) →
      Calls Try.prog 18 #[.pointer (some ⟨S, 0, none⟩)] w fun e w' => e = .returned (.bool x) ∧ Below w.heap.size w w') := fun w S B T => by
    rw [← HX.out]
    exact zw_any w S B (l4 - K) nx ed lm _ _ _ _ _ T (by omega) (HOK.out.suffix hlt HK.out) (fun i hi => HU.out (K + i) (by omega)) 0 HK.out.suffix
  go_region_held3 (fun w' => True) (trivial) (first | (go_at_call 19; refine HN2.out.mono ?_; rintro e wa ⟨Sa, Ba, rfl, Ta, hBa⟩) | (go_at_call 18; refine (HZ2.out _ _ _ Ta).mono ?_; rintro e wb ⟨rfl, hBb⟩))
  have Fb := (F9.below (((Below.refl _ _).drew).trans hBa)).below hBb
  have HBb : Hid (Below w0.heap.size w0 wb) := (HB9.out.trans ((((Below.refl _ _).drew).trans hBa).mono HB9.out.size)).trans (hBb.mono (Nat.le_trans HB9.out.size hBa.size))
  clear HN2 HZ2 Ta hBa hBb F9 HB9 ne0 ne1 ne2 ne3 ne4
  go_wp2_with fail
  have j0 : (0 : Int) ≤ (K : Int) + 1 := by omega
  have j1 : (K : Int) + 1 ≤ (e0 : Int) := by omega
  have j2 : (K : Int) + 1 ≤ (e1 : Int) := by omega
  have j3 : (K : Int) + 1 ≤ (e2 : Int) := by omega
  have j4 : (K : Int) + 1 ≤ (e3 : Int) := by omega
  have j5 : (K : Int) + 1 ≤ (e4 : Int) := by omega
  have s0 : (K : Int) < (e0 : Int) := by omega
  have t0 : K < e0 := by omega
  have s1 : (K : Int) < (e1 : Int) := by omega
  have t1 : K < e1 := by omega
  have s2 : (K : Int) < (e2 : Int) := by omega
  have t2 : K < e2 := by omega
  have s3 : (K : Int) < (e3 : Int) := by omega
  have t3 : K < e3 := by omega
  have s4 : (K : Int) < (e4 : Int) := by omega
  have t4 : K < e4 := by omega
  have wr1 : IntKind.i64.wrap ((K : Int) + 1) = (K : Int) + 1 := by rw [IntKind.wrap_i64]; omega
  have cb : wb.drew.cell? ⟨p1, o1 + K, none⟩ = some (.int .u64 (en K)) := by
    obtain ⟨p, o, e, hc⟩ := Fb.h1 K hKm
    cases e
    exact hc
  have HN3 := hide (new_any wb.drew (K + 1) nx (en K) lm st en d on gv _ _ _ _ _ e0 e1 e2 e3 e4
    (Fb.h0.drew.upto (K + 1) (by omega)) (Fb.h1.drew.upto (K + 1) (by omega)) (Fb.h2.drew.upto (K + 1) (by omega)) (Fb.h3.drew.upto (K + 1) (by omega)) (Fb.h4.drew.upto (K + 1) (by omega)) (fun i hi => HD.out i (by omega)) (by omega))
  have HZ3 : Hid (∀ w S B, Strm w S B (K + 1) nx (en K) lm st en d on gv → Calls Try.prog 18 #[.pointer (some ⟨S, 0, none⟩)] w fun e w' => e = .returned (.bool x) ∧ Below w.heap.size w w') := fun w S B T => by
    rw [← HX.out, ans_in hlt HNE.out]
    exact zw_any w S B (K + 1) nx (en K) lm st en d on gv T (by omega) (HOK.out.prefix hlt HK.out) (fun i hi => HU.out i (by omega)) K (HK.out.prefix hKm)
  go_region_held3 (fun w' => w'.cell? ⟨p1, o1 + K, none⟩ = some (.int .u64 (en K))) (first | (exact cell_later hBd (cell_later (w := wb.drew) hBc cb)) | (exact cell_later (w := wb.drew) hBc cb) | (exact cb))
    (first | (go_at_call 19; refine HN3.out.mono ?_; rintro e wc ⟨Sc, Bc, rfl, Tc, hBc⟩) | (go_at_call 18; refine (HZ3.out _ _ _ Tc).mono ?_; rintro e wd ⟨rfl, hBd⟩))
  have Fd := (Fb.below (((Below.refl _ _).drew).trans hBc)).below hBd
  have HBd : Hid (Below w0.heap.size w0 wd) := (HBb.out.trans ((((Below.refl _ _).drew).trans hBc).mono HBb.out.size)).trans (hBd.mono (Nat.le_trans HBb.out.size hBc.size))
  refine ‹∀ (a : Act) (w : World), Code.wp Try.prog _ _ a w → _› _ _ ?_
  have r1 : wd.cell? ⟨p1, o1 + K, none⟩ = some (.int .u64 (en K)) := by
    obtain ⟨p, o, e, hc⟩ := Fd.h1 K hKm
    cases e
    exact hc
  have r2 : wd.cell? ⟨p2, o2 + K, none⟩ = some (.bool (on K)) := by
    obtain ⟨p, o, e, hc⟩ := Fd.h2 K hKm
    cases e
    exact hc
  have r3 : wd.cell? ⟨p3, o3 + K, none⟩ = some (.int .i64 (d K)) := by
    obtain ⟨p, o, e, hc⟩ := Fd.h3 K hKm
    cases e
    exact hc
  have r4 : wd.cell? ⟨p4, o4 + K, none⟩ = some (.bool (gv K)) := by
    obtain ⟨p, o, e, hc⟩ := Fd.h4 K hKm
    cases e
    exact hc
  exact u3 w0 wd nx ed lm x K l4 p1 o1 p2 o2 p3 o3 p4 o4 e1 e2 e3 e4 (en K) (d K) (on K) (gv K) hKm r1 r2 r3 r4 HBd (hide ⟨HF.out.1, HF.out.2.1, HF.out.2.2.1, fun a b c => HF.out.2.2.2 a b (by omega)⟩) _ _ _ _ _ _ _ _ _ _ _ _ _ _ _ _ _ _ _ _ _ _ _ _ _ _ _ _ _ _ _ _ _ _ _ _ _ _ _ _ _ _ _ _ _ _ _ _ _ _ _ _ _ _ _ _ _ _ _ _ _ _ _ _ _ _ _ _ _ _ _ _ _ _ _ _ _ _ _ _ _ _ _ _ _ _ _ _ _ _ _ _ _ _ _ _ _ _ _ _ _ _ _ _ _ _ _ _ _ _ _ _ _ _ _ _ _ _ _ _ _ _ _ _ _ _ _ _ _ _ _ _ _ _ _ _ _ _ _ _ _ _ _ _ _ _ _ _ _ _ _ _ _ _ _ _ _ _ _ _ _ _ _ _ _ _ _ _ _ _ _ _ _ _ _ _ _ _ _ _ _ _ _ _ _ _ _ _ _ _ _ _ _ _ _ _ _ _ _ _ _ _ _ _ _ _ _ _ _ _ _ _ _
end Go.Proofs.Qxb6608940a
