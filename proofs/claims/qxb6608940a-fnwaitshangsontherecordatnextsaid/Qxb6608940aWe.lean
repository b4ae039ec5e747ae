import Derived.Test.Qxb6608940aWd
namespace Go.Proofs.Qxb6608940a
open Go.RowKit
set_option linter.unusedVariables false

set_option maxRecDepth 1000000 in
set_option maxHeartbeats 8000000 in
theorem u1b (w0 w4 : World) (nx ed lm : Int) (st en d : Nat → Int) (on gv : Nat → Bool) (b0 b1 b2 a3 a4 : Option Addr) (l4 e0 e1 e2 c3 c4 : Nat) (F4 : Five w4 b0 b1 b2 a3 a4 l4 st en d on gv)
    (HB4 : Hid (Below w0.heap.size w0 w4)) (HOK : Hid (Ok l4 nx ed st en)) (hm : l4 ≤ 32768) (HU0 : Hid (∀ i, i < l4 → 0 ≤ st i)) (HU1 : Hid (∀ i, i < l4 → en i ≤ 18446744073709551615))
    (HD : Hid (∀ i, i < l4 → -9223372036854775808 ≤ d i ∧ d i ≤ 9223372036854775807)) (g0 : l4 ≤ e0) (g1 : l4 ≤ e1) (g2 : l4 ≤ e2) (y3 : l4 ≤ c3) (y4 : l4 ≤ c4) (u8 u9 u10 u11 u12 u13 u14 u15 u16 u17 u18 u19 u20 u21 u22 u23 u24 u25 u26 u27 u28 u29 u30 u31 u32 u33 u34 u35 u36 u37 u38 u39 u40 u41 u42 u43 u44 u45 u46 u47 u48 u49 u50 u51 u52 u53 u54 u55 u56 u57 u58 u59 u60 u61 u62 u63 u64 u65 u66 u67 u68 u69 u70 u71 u72 u73 u74 u75 u76 u77 u78 u79 u80 u81 u82 u83 u84 u85 u86 u87 u88 u89 u90 u91 u92 u93 u94 u95 u96 u97 u98 u99 u100 u101 u102 u103 u104 u105 u106 u107 u108 u109 u110 u111 u112 u113 u114 u115 u116 u117 u118 u119 u120 u121 u122 u123 u124 u125 u126 u127 u128 u129 u130 u131 u132 u133 u134 u135 u136 u137 u138 u139 u140 u141 u142 u143 u144 u145 u146 u147 u148 u149 u150 u151 u152 u153 u154 u155 u156 u157 u158 u159 u160 u161 u162 u163 u164 u165 u166 u167 u168 u169 u170 u171 u172 u173 u174 u175 u176 u177 u178 u179 u180 u181 u182 u183 u184 u185 u186 u187 u188 u189 u190 u191 u192 u193 u194 u195 u196 u197 u198 u199 u200 u201 u202 u203 u204 u205 u206 u207 u208 u209 u210 u211 u212 u213 u214 u215 u216 u217 u218 u219 u220 u221 u222 u223 : Value) :
    Code.wp Try.prog (tailOf 7 (Try.f7.body.getD .skip)) (bodyPost Try.prog Try.f7 fun e w' => e = .returned (.bool true) ∧ Below w0.heap.size w0 w') ⟨#[.slice b0 l4 e0, .slice b1 l4 e1, .slice b2 l4 e2, .slice a3 l4 c3, .slice a4 l4 c4, .int .u64 nx, .int .u64 ed, .int .u64 lm, u8, u9, u10, u11, u12, u13, u14, u15, u16, u17, u18, u19, u20, u21, u22, u23, u24, u25, u26, u27, u28, u29, u30, u31, u32, u33, u34, u35, u36, u37, u38, u39, u40, u41, u42, u43, u44, u45, u46, u47, u48, u49, u50, u51, u52, u53, u54, u55, u56, u57, u58, u59, u60, u61, u62, u63, u64, u65, u66, u67, u68, u69, u70, u71, u72, u73, u74, u75, u76, u77, u78, u79, u80, u81, u82, u83, u84, u85, u86, u87, u88, u89, u90, u91, u92, u93, u94, u95, u96, u97, u98, u99, u100, u101, u102, u103, u104, u105, u106, u107, u108, u109, u110, u111, u112, u113, u114, u115, u116, u117, u118, u119, u120, u121, u122, u123, u124, u125, u126, u127, u128, u129, u130, u131, u132, u133, u134, u135, u136, u137, u138, u139, u140, u141, u142, u143, u144, u145, u146, u147, u148, u149, u150, u151, u152, u153, u154, u155, u156, u157, u158, u159, u160, u161, u162, u163, u164, u165, u166, u167, u168, u169, u170, u171, u172, u173, u174, u175, u176, u177, u178, u179, u180, u181, u182, u183, u184, u185, u186, u187, u188, u189, u190, u191, u192, u193, u194, u195, u196, u197, u198, u199, u200, u201, u202, u203, u204, u205, u206, u207, u208, u209, u210, u211, u212, u213, u214, u215, u216, u217, u218, u219, u220, u221, u222, u223], []⟩ w4 := by
  conv => arg 2; whnf
  dsimp only
  have mk := make28 l4 hm
  go_upto_if 96 with fail
  have cp := fun ty => copy_run w4 28 2 ty Try.underlying28 size2 #[.int .i64 0] a3 l4 c3 _ F4.h3 (fun _ => rfl)
  go_cut [3, 20] (fun s z wx => ∃ a c, s = .slice a l4 c ∧ l4 ≤ c ∧ Sl wx a l4 (fun i => .int .i64 (d i)) ∧ Below w4.heap.size w4 wx)
  case first =>
    cases a3 with
    | none =>
      go_wp2_with fail
      go_meet
      exact ⟨_, _, rfl, y3, F4.h3, Below.refl _ _⟩
    | some ad =>
      go_wp2_with fail
      go_meet
      exact ⟨_, _, rfl, Nat.le_refl _, sl_copy _ _ _ _, (Below.refl _ _).alloc (Nat.le_refl _) _⟩
  case rest =>
  clear mk cp
  obtain ⟨w5, hwc⟩ : ∃ x, x = wc := ⟨_, rfl⟩
  subst hwc
  obtain ⟨b3, e3, rfl, g3, hS, hB⟩ := hcut
  have F5 : Five w5 b0 b1 b2 b3 a4 l4 st en d on gv := by
    have G := F4.below hB
    exact ⟨G.h0, G.h1, G.h2, hS, G.h4⟩
  have HB5 : Hid (Below w0.heap.size w0 w5) := HB4.out.trans (hB.mono HB4.out.size)
  clear hS hB F4 HB4
  have mk := make37 l4 hm
  go_upto_if 105 with fail
  have cp := fun ty => copy_run w5 37 4 ty Try.underlying37 size4 #[.bool false] a4 l4 c4 _ F5.h4 (fun _ => rfl)
  go_cut [4, 21] (fun s z wx => ∃ a c, s = .slice a l4 c ∧ l4 ≤ c ∧ Sl wx a l4 (fun i => .bool (gv i)) ∧ Below w5.heap.size w5 wx)
  case first =>
    cases a4 with
    | none =>
      go_wp2_with fail
      go_meet
      exact ⟨_, _, rfl, y4, F5.h4, Below.refl _ _⟩
    | some ad =>
      go_wp2_with fail
      go_meet
      exact ⟨_, _, rfl, Nat.le_refl _, sl_copy _ _ _ _, (Below.refl _ _).alloc (Nat.le_refl _) _⟩
  case rest =>
  clear mk cp
  obtain ⟨w6, hwc⟩ : ∃ x, x = wc := ⟨_, rfl⟩
  subst hwc
  obtain ⟨b4, e4, rfl, g4, hS, hB⟩ := hcut
  have F6 : Five w6 b0 b1 b2 b3 b4 l4 st en d on gv := by
    have G := F5.below hB
    exact ⟨G.h0, G.h1, G.h2, G.h3, hS⟩
  have HB6 : Hid (Below w0.heap.size w0 w6) := HB5.out.trans (hB.mono HB5.out.size)
  clear hS hB F5 HB5
  refine ‹∀ (a : Act) (w : World), Code.wp Try.prog _ _ a w → _› _ _ ?_
  by_cases hlt : nx < ed
  · exact u2_some w0 w6 nx ed lm st en d on gv b0 b1 b2 b3 b4 l4 e0 e1 e2 e3 e4 F6 HB6 HOK hm HU0 HU1 HD g0 g1 g2 g3 g4 hlt _ _ _ _ _ _ _ _ _ _ _ _ _ _ _ _ _ _ _ _ _ _ _ _ _ _ _ _ _ _ _ _ _ _ _ _ _ _ _ _ _ _ _ _ _ _ _ _ _ _ _ _ _ _ _ _ _ _ _ _ _ _ _ _ _ _ _ _ _ _ _ _ _ _ _ _ _ _ _ _ _ _ _ _ _ _ _ _ _ _ _ _ _ _ _ _ _ _ _ _ _ _ _ _ _ _ _ _ _ _ _ _ _ _ _ _ _ _ _ _ _ _ _ _ _ _ _ _ _ _ _ _ _ _ _ _ _ _ _ _ _ _ _ _ _ _ _ _ _ _ _ _ _ _ _ _ _ _ _ _ _ _ _ _ _ _ _ _ _ _ _ _ _ _ _ _ _ _ _ _ _ _ _ _ _ _ _ _ _ _ _ _ _ _ _ _ _ _ _ _ _ _ _ _ _ _ _ _ _ _ _ _ _ _ _ _
  · exact u2_none w0 w6 nx ed lm st en d on gv b0 b1 b2 b3 b4 l4 e0 e1 e2 e3 e4 F6 HB6 HOK hm HU0 HU1 HD g0 g1 g2 g3 g4 (by omega) _ _ _ _ _ _ _ _ _ _ _ _ _ _ _ _ _ _ _ _ _ _ _ _ _ _ _ _ _ _ _ _ _ _ _ _ _ _ _ _ _ _ _ _ _ _ _ _ _ _ _ _ _ _ _ _ _ _ _ _ _ _ _ _ _ _ _ _ _ _ _ _ _ _ _ _ _ _ _ _ _ _ _ _ _ _ _ _ _ _ _ _ _ _ _ _ _ _ _ _ _ _ _ _ _ _ _ _ _ _ _ _ _ _ _ _ _ _ _ _ _ _ _ _ _ _ _ _ _ _ _ _ _ _ _ _ _ _ _ _ _ _ _ _ _ _ _ _ _ _ _ _ _ _ _ _ _ _ _ _ _ _ _ _ _ _ _ _ _ _ _ _ _ _ _ _ _ _ _ _ _ _ _ _ _ _ _ _ _ _ _ _ _ _ _ _ _ _ _ _ _ _ _ _ _ _ _ _ _ _ _ _ _ _ _ _
end Go.Proofs.Qxb6608940a
