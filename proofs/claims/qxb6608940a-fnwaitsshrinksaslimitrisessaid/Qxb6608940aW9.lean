import Derived.Test.Qxb6608940aW8
namespace Go.Proofs.Qxb6608940a
open Go.RowKit
set_option linter.unusedVariables false

set_option maxRecDepth 1000000 in
set_option maxHeartbeats 8000000 in
theorem tail2 (w0 w6 : World) (nx ed lm1 lm2 : Int) (st en d : Nat → Int) (on gv : Nat → Bool) (b0 b1 b2 b3 b4 : Option Addr) (l4 e0 e1 e2 e3 e4 : Nat) (F6 : Five w6 b0 b1 b2 b3 b4 l4 st en d on gv)
    (HB6 : Hid (Below w0.heap.size w0 w6)) (HOK : Hid (Ok l4 nx ed st en)) (hm : l4 ≤ 32768) (HU0 : Hid (∀ i, i < l4 → 0 ≤ st i)) (HU1 : Hid (∀ i, i < l4 → en i ≤ 18446744073709551615))
    (HD : Hid (∀ i, i < l4 → -9223372036854775808 ≤ d i ∧ d i ≤ 9223372036854775807)) (u9 u10 u11 u12 u13 u14 u15 u16 u17 u18 u19 u20 u21 u22 u23 u24 u25 u26 u27 u28 u29 u30 u31 u32 u33 u34 u35 u36 u37 u38 u39 u40 u41 u42 u43 u44 u45 u46 u47 u48 u49 u50 u51 u52 u53 u54 u55 u56 u57 u58 u59 u60 u61 u62 u63 u64 u65 u66 u67 u68 u69 u70 u71 u72 u73 u74 u75 u76 u77 u78 u79 u80 u81 u82 u83 u84 u85 u86 u87 u88 u89 u90 u91 u92 u93 u94 u95 u96 u97 u98 u99 u100 u101 u102 u103 u104 u105 u106 u107 u108 u109 u110 u111 u112 u113 u114 u115 u116 u117 u118 u119 u120 u121 u122 u123 u124 u125 u126 u127 u128 u129 u130 u131 u132 u133 u134 u135 u136 u137 u138 u139 u140 u141 u142 u143 u144 u145 u146 u147 u148 u149 u150 u151 u152 u153 u154 u155 u156 u157 u158 u159 u160 u161 u162 u163 u164 u165 u166 u167 u168 u169 u170 u171 u172 u173 u174 u175 u176 u177 u178 u179 u180 u181 u182 u183 u184 u185 u186 u187 u188 u189 u190 u191 u192 : Value) :
    Code.wp Try.prog (tailAt 9 (Try.f6.body.getD .skip)) (bodyPost Try.prog Try.f6 fun e w' => e = .returned (.bool true) ∧ Below w0.heap.size w0 w') ⟨#[.slice b0 l4 e0, .slice b1 l4 e1, .slice b2 l4 e2, .slice b3 l4 e3, .slice b4 l4 e4, .int .u64 nx, .int .u64 ed, .int .u64 lm1, .int .u64 lm2, u9, u10, u11, u12, u13, u14, u15, u16, u17, u18, u19, u20, u21, u22, u23, u24, u25, u26, u27, u28, u29, u30, u31, u32, u33, u34, u35, u36, u37, u38, u39, u40, u41, u42, u43, u44, u45, u46, u47, u48, u49, u50, u51, u52, u53, u54, u55, u56, u57, u58, u59, u60, u61, u62, u63, u64, u65, u66, u67, u68, u69, u70, u71, u72, u73, u74, u75, u76, u77, u78, u79, u80, u81, u82, u83, u84, u85, u86, u87, u88, u89, u90, u91, u92, u93, u94, u95, u96, u97, u98, u99, u100, u101, u102, u103, u104, u105, u106, u107, u108, u109, u110, u111, u112, u113, u114, u115, u116, u117, u118, u119, u120, u121, u122, u123, u124, u125, u126, u127, u128, u129, u130, u131, u132, u133, u134, u135, u136, u137, u138, u139, u140, u141, u142, u143, u144, u145, u146, u147, u148, u149, u150, u151, u152, u153, u154, u155, u156, u157, u158, u159, u160, u161, u162, u163, u164, u165, u166, u167, u168, u169, u170, u171, u172, u173, u174, u175, u176, u177, u178, u179, u180, u181, u182, u183, u184, u185, u186, u187, u188, u189, u190, u191, u192], []⟩ w6 := by
  conv => arg 2; whnf
  dsimp only
  obtain ⟨K, hK⟩ := first_ex en nx l4
  have hu : ∀ i, i < l4 → 0 ≤ st i ∧ en i ≤ 18446744073709551615 := fun i hi => ⟨HU0.out i hi, HU1.out i hi⟩
  obtain ⟨x1, hx1⟩ : ∃ x, x = ans nx ed lm1 (st K) (en K) (d K) (on K) (gv K) := ⟨_, rfl⟩
  obtain ⟨x2, hx2⟩ : ∃ x, x = ans nx ed lm2 (st K) (en K) (d K) (on K) (gv K) := ⟨_, rfl⟩
  obtain ⟨lw, hlw⟩ : ∃ x, x = low nx ed (gv K) := ⟨_, rfl⟩
  have HF : Hid ((lm1 ≤ lm2 → x2 = true → x1 = true) ∧ (lm2 ≤ lm1 → x1 = true → x2 = true) ∧ (lm1 ≤ nx → x1 = lw) ∧ (lm2 ≤ nx → x2 = lw) ∧ (ed ≤ lm1 → x1 = false) ∧ (ed ≤ lm2 → x2 = false)) := by
    rw [hx1, hx2, hlw]
    exact ⟨fun h => ans_mono h, fun h => ans_mono h, fun h => ans_low h, fun h => ans_low h, fun h => ans_high h (fun hn => HOK.out.upper (HOK.out.inside hn hK)), fun h => ans_high h (fun hn => HOK.out.upper (HOK.out.inside hn hK))⟩
  have HL : Hid (lw = low nx ed (gv K)) := hlw
  have HX1 : Hid (x1 = ans nx ed lm1 (st K) (en K) (d K) (on K) (gv K)) := hx1
  have HX2 : Hid (x2 = ans nx ed lm2 (st K) (en K) (d K) (on K) (gv K)) := hx2
  have HK := hide hK
  have HU := hide hu
  clear hlw hx1 hx2 hK hu HU0 HU1
  have HN1 := hide (new_any w6 l4 nx ed lm1 st en d on gv b0 b1 b2 b3 b4 e0 e1 e2 e3 e4 F6.h0 F6.h1 F6.h2 F6.h3 F6.h4 HD.out hm)
  go_wp2_with fail
  refine HN1.out.mono ?_
  rintro e w7 ⟨S1, B1, rfl, T1, hB7⟩
  have HZ1 : Hid (Calls Try.prog 18 #[.pointer (some ⟨S1, 0, none⟩)] w7 fun e w' => e = .returned (.bool x1) ∧ Below w7.heap.size w7 w') := by
    rw [HX1.out]; exact zw_any w7 S1 B1 l4 nx ed lm1 st en d on gv T1 hm HOK.out HU.out K HK.out
  clear HN1 T1
  go_wp2_with fail
  refine HZ1.out.mono ?_
  rintro e w8 ⟨rfl, hB8⟩
  have F8 := (F6.below hB7).below hB8
  have HB8 : Hid (Below w0.heap.size w0 w8) := (HB6.out.trans (hB7.mono HB6.out.size)).trans (hB8.mono (Nat.le_trans HB6.out.size hB7.size))
  clear HZ1 F6 HB6 hB7 hB8
  have HN2 := hide (new_any w8 l4 nx ed lm2 st en d on gv b0 b1 b2 b3 b4 e0 e1 e2 e3 e4 F8.h0 F8.h1 F8.h2 F8.h3 F8.h4 HD.out hm)
  go_wp2_with fail
  refine HN2.out.mono ?_
  rintro e w9 ⟨S2, B2, rfl, T2, hB9⟩
  have HZ2 : Hid (Calls Try.prog 18 #[.pointer (some ⟨S2, 0, none⟩)] w9 fun e w' => e = .returned (.bool x2) ∧ Below w9.heap.size w9 w') := by
    rw [HX2.out]; exact zw_any w9 S2 B2 l4 nx ed lm2 st en d on gv T2 hm HOK.out HU.out K HK.out
  clear HN2 T2
  go_wp2_with fail
  refine HZ2.out.mono ?_
  rintro e w10 ⟨rfl, hB10⟩
  have F10 := (F8.below hB9).below hB10
  have HB10 : Hid (Below w0.heap.size w0 w10) := (HB8.out.trans (hB9.mono HB8.out.size)).trans (hB10.mono (Nat.le_trans HB8.out.size hB9.size))
  clear HZ2 F8 HB8 hB9 hB10
  go_upto_if 137 with fail
  go_cut [26] (fun s wx => s = .bool lw ∧ Below w10.heap.size w10 wx)
  case first =>
    by_cases h : nx < ed
    · have hKm := HOK.out.inside h HK.out
      obtain ⟨p4, o4, rfl, q4⟩ := F10.h4 K hKm
      have HS := hide (scan_any w10 l4 nx en b1 e1 F10.h1 hm)
      have i0 : (0 : Int) ≤ (K : Int) := by omega
      have i1 : (K : Int) < (l4 : Int) := by omega
      go_wp2_with fail
      refine HS.out.mono ?_
      rintro e w11 ⟨⟨K', hK', rfl⟩, n, rfl⟩
      obtain rfl : K = K' := HK.out.uniq hK'
      go_wp2_with fail
      go_meet
      have dn : decide (nx < ed) = true := by simpa using h
      exact ⟨by rw [HL.out]; unfold low; rw [dn]; rfl, below_drewN n⟩
    · have dn : decide (nx < ed) = false := by simpa using h
      go_wp2_with fail
      go_meet
      exact ⟨by rw [HL.out]; unfold low; rw [dn]; rfl, Below.refl _ _⟩
  case rest =>
  obtain ⟨w11, hwc⟩ : ∃ x, x = wc := ⟨_, rfl⟩
  subst hwc
  obtain ⟨rfl, hB11⟩ := hcut
  have HB11 : Hid (Below w0.heap.size w0 w11) := HB10.out.trans (hB11.mono HB10.out.size)
  clear hB11 HB10 F10 HX1 HX2 HL HOK HK HU HD
  refine ‹∀ (a : Act) (w : World), Code.wp Try.prog _ _ a w → _› _ _ ?_
  exact tail3 w0 w11 nx ed lm1 lm2 x1 x2 lw HF HB11 _ _ _ _ _ _ _ _ _ _ _ _ _ _ _ _ _ _ _ _ _ _ _ _ _ _ _ _ _ _ _ _ _ _ _ _ _ _ _ _ _ _ _ _ _ _ _ _ _ _ _ _ _ _ _ _ _ _ _ _ _ _ _ _ _ _ _ _ _ _ _ _ _ _ _ _ _ _ _ _ _ _ _ _ _ _ _ _ _ _ _ _ _ _ _ _ _ _ _ _ _ _ _ _ _ _ _ _ _ _ _ _ _ _ _ _ _ _ _ _ _ _ _ _ _ _ _ _ _ _ _ _ _ _ _ _ _ _ _ _ _ _ _ _ _ _ _ _ _ _ _ _ _ _ _ _ _ _ _ _ _ _ _ _ _ _ _ _ _ _ _ _ _ _ _ _ _ _ _ _ _ _ _ _ _ _
end Go.Proofs.Qxb6608940a
