import Derived.Test.Qxb6608940aWe
namespace Go.Proofs.Qxb6608940a
open Go.RowKit
set_option linter.unusedVariables false

set_option maxRecDepth 1000000 in
set_option maxHeartbeats 8000000 in
theorem u1a (w0 w1 : World) (nx ed lm : Int) (st en d : Nat → Int) (on gv : Nat → Bool) (a0 a1 a2 a3 a4 : Option Addr) (l4 c0 c1 c2 c3 c4 : Nat) (F1 : Five w1 a0 a1 a2 a3 a4 l4 st en d on gv)
    (HB1 : Hid (Below w0.heap.size w0 w1)) (HOK : Hid (Ok l4 nx ed st en)) (hm : l4 ≤ 32768) (HU0 : Hid (∀ i, i < l4 → 0 ≤ st i)) (HU1 : Hid (∀ i, i < l4 → en i ≤ 18446744073709551615))
    (HD : Hid (∀ i, i < l4 → -9223372036854775808 ≤ d i ∧ d i ≤ 9223372036854775807)) (y0 : l4 ≤ c0) (y1 : l4 ≤ c1) (y2 : l4 ≤ c2) (y3 : l4 ≤ c3) (y4 : l4 ≤ c4) (u8 u9 u10 u11 u12 u13 u14 u15 u16 u17 u18 u19 u20 u21 u22 u23 u24 u25 u26 u27 u28 u29 u30 u31 u32 u33 u34 u35 u36 u37 u38 u39 u40 u41 u42 u43 u44 u45 u46 u47 u48 u49 u50 u51 u52 u53 u54 u55 u56 u57 u58 u59 u60 u61 u62 u63 u64 u65 u66 u67 u68 u69 u70 u71 u72 u73 u74 u75 u76 u77 u78 u79 u80 u81 u82 u83 u84 u85 u86 u87 u88 u89 u90 u91 u92 u93 u94 u95 u96 u97 u98 u99 u100 u101 u102 u103 u104 u105 u106 u107 u108 u109 u110 u111 u112 u113 u114 u115 u116 u117 u118 u119 u120 u121 u122 u123 u124 u125 u126 u127 u128 u129 u130 u131 u132 u133 u134 u135 u136 u137 u138 u139 u140 u141 u142 u143 u144 u145 u146 u147 u148 u149 u150 u151 u152 u153 u154 u155 u156 u157 u158 u159 u160 u161 u162 u163 u164 u165 u166 u167 u168 u169 u170 u171 u172 u173 u174 u175 u176 u177 u178 u179 u180 u181 u182 u183 u184 u185 u186 u187 u188 u189 u190 u191 u192 u193 u194 u195 u196 u197 u198 u199 u200 u201 u202 u203 u204 u205 u206 u207 u208 u209 u210 u211 u212 u213 u214 u215 u216 u217 u218 u219 u220 u221 u222 u223 : Value) :
    Code.wp Try.prog (tailOf 4 (Try.f7.body.getD .skip)) (bodyPost Try.prog Try.f7 fun e w' => e = .returned (.bool true) ∧ Below w0.heap.size w0 w') ⟨#[.slice a0 l4 c0, .slice a1 l4 c1, .slice a2 l4 c2, .slice a3 l4 c3, .slice a4 l4 c4, .int .u64 nx, .int .u64 ed, .int .u64 lm, u8, u9, u10, u11, u12, u13, u14, u15, u16, u17, u18, u19, u20, u21, u22, u23, u24, u25, u26, u27, u28, u29, u30, u31, u32, u33, u34, u35, u36, u37, u38, u39, u40, u41, u42, u43, u44, u45, u46, u47, u48, u49, u50, u51, u52, u53, u54, u55, u56, u57, u58, u59, u60, u61, u62, u63, u64, u65, u66, u67, u68, u69, u70, u71, u72, u73, u74, u75, u76, u77, u78, u79, u80, u81, u82, u83, u84, u85, u86, u87, u88, u89, u90, u91, u92, u93, u94, u95, u96, u97, u98, u99, u100, u101, u102, u103, u104, u105, u106, u107, u108, u109, u110, u111, u112, u113, u114, u115, u116, u117, u118, u119, u120, u121, u122, u123, u124, u125, u126, u127, u128, u129, u130, u131, u132, u133, u134, u135, u136, u137, u138, u139, u140, u141, u142, u143, u144, u145, u146, u147, u148, u149, u150, u151, u152, u153, u154, u155, u156, u157, u158, u159, u160, u161, u162, u163, u164, u165, u166, u167, u168, u169, u170, u171, u172, u173, u174, u175, u176, u177, u178, u179, u180, u181, u182, u183, u184, u185, u186, u187, u188, u189, u190, u191, u192, u193, u194, u195, u196, u197, u198, u199, u200, u201, u202, u203, u204, u205, u206, u207, u208, u209, u210, u211, u212, u213, u214, u215, u216, u217, u218, u219, u220, u221, u222, u223], []⟩ w1 := by
  conv => arg 2; whnf
  dsimp only
  have mk := make36 l4 hm
  go_upto_if 69 with fail
  have cp := fun ty => copy_run w1 36 29 ty Try.underlying36 size29 #[.int .u64 0] a0 l4 c0 _ F1.h0 (fun _ => rfl)
  go_cut [0, 17] (fun s z wx => ∃ a c, s = .slice a l4 c ∧ l4 ≤ c ∧ Sl wx a l4 (fun i => .int .u64 (st i)) ∧ Below w1.heap.size w1 wx)
  case first =>
    cases a0 with
    | none =>
      go_wp2_with fail
      go_meet
      exact ⟨_, _, rfl, y0, F1.h0, Below.refl _ _⟩
    | some ad =>
      go_wp2_with fail
      go_meet
      exact ⟨_, _, rfl, Nat.le_refl _, sl_copy _ _ _ _, (Below.refl _ _).alloc (Nat.le_refl _) _⟩
  case rest =>
  clear mk cp
  obtain ⟨w2, hwc⟩ : ∃ x, x = wc := ⟨_, rfl⟩
  subst hwc
  obtain ⟨b0, e0, rfl, g0, hS, hB⟩ := hcut
  have F2 : Five w2 b0 a1 a2 a3 a4 l4 st en d on gv := by
    have G := F1.below hB
    exact ⟨hS, G.h1, G.h2, G.h3, G.h4⟩
  have HB2 : Hid (Below w0.heap.size w0 w2) := HB1.out.trans (hB.mono HB1.out.size)
  clear hS hB F1 HB1
  have mk := make36 l4 hm
  go_upto_if 78 with fail
  have cp := fun ty => copy_run w2 36 29 ty Try.underlying36 size29 #[.int .u64 0] a1 l4 c1 _ F2.h1 (fun _ => rfl)
  go_cut [1, 18] (fun s z wx => ∃ a c, s = .slice a l4 c ∧ l4 ≤ c ∧ Sl wx a l4 (fun i => .int .u64 (en i)) ∧ Below w2.heap.size w2 wx)
  case first =>
    cases a1 with
    | none =>
      go_wp2_with fail
      go_meet
      exact ⟨_, _, rfl, y1, F2.h1, Below.refl _ _⟩
    | some ad =>
      go_wp2_with fail
      go_meet
      exact ⟨_, _, rfl, Nat.le_refl _, sl_copy _ _ _ _, (Below.refl _ _).alloc (Nat.le_refl _) _⟩
  case rest =>
  clear mk cp
  obtain ⟨w3, hwc⟩ : ∃ x, x = wc := ⟨_, rfl⟩
  subst hwc
  obtain ⟨b1, e1, rfl, g1, hS, hB⟩ := hcut
  have F3 : Five w3 b0 b1 a2 a3 a4 l4 st en d on gv := by
    have G := F2.below hB
    exact ⟨G.h0, hS, G.h2, G.h3, G.h4⟩
  have HB3 : Hid (Below w0.heap.size w0 w3) := HB2.out.trans (hB.mono HB2.out.size)
  clear hS hB F2 HB2
  have mk := make37 l4 hm
  go_upto_if 87 with fail
  have cp := fun ty => copy_run w3 37 4 ty Try.underlying37 size4 #[.bool false] a2 l4 c2 _ F3.h2 (fun _ => rfl)
  go_cut [2, 19] (fun s z wx => ∃ a c, s = .slice a l4 c ∧ l4 ≤ c ∧ Sl wx a l4 (fun i => .bool (on i)) ∧ Below w3.heap.size w3 wx)
  case first =>
    cases a2 with
    | none =>
      go_wp2_with fail
      go_meet
      exact ⟨_, _, rfl, y2, F3.h2, Below.refl _ _⟩
    | some ad =>
      go_wp2_with fail
      go_meet
      exact ⟨_, _, rfl, Nat.le_refl _, sl_copy _ _ _ _, (Below.refl _ _).alloc (Nat.le_refl _) _⟩
  case rest =>
  clear mk cp
  obtain ⟨w4, hwc⟩ : ∃ x, x = wc := ⟨_, rfl⟩
  subst hwc
  obtain ⟨b2, e2, rfl, g2, hS, hB⟩ := hcut
  have F4 : Five w4 b0 b1 b2 a3 a4 l4 st en d on gv := by
    have G := F3.below hB
    exact ⟨G.h0, G.h1, hS, G.h3, G.h4⟩
  have HB4 : Hid (Below w0.heap.size w0 w4) := HB3.out.trans (hB.mono HB3.out.size)
  clear hS hB F3 HB3
  refine ‹∀ (a : Act) (w : World), Code.wp Try.prog _ _ a w → _› _ _ ?_
  exact u1b w0 w4 nx ed lm st en d on gv b0 b1 b2 a3 a4 l4 e0 e1 e2 c3 c4 F4 HB4 HOK hm HU0 HU1 HD g0 g1 g2 y3 y4 _ _ _ _ _ _ _ _ _ _ _ _ _ _ _ _ _ _ _ _ _ _ _ _ _ _ _ _ _ _ _ _ _ _ _ _ _ _ _ _ _ _ _ _ _ _ _ _ _ _ _ _ _ _ _ _ _ _ _ _ _ _ _ _ _ _ _ _ _ _ _ _ _ _ _ _ _ _ _ _ _ _ _ _ _ _ _ _ _ _ _ _ _ _ _ _ _ _ _ _ _ _ _ _ _ _ _ _ _ _ _ _ _ _ _ _ _ _ _ _ _ _ _ _ _ _ _ _ _ _ _ _ _ _ _ _ _ _ _ _ _ _ _ _ _ _ _ _ _ _ _ _ _ _ _ _ _ _ _ _ _ _ _ _ _ _ _ _ _ _ _ _ _ _ _ _ _ _ _ _ _ _ _ _ _ _ _ _ _ _ _ _ _ _ _ _ _ _ _ _ _ _ _ _ _ _ _ _ _ _ _ _ _ _ _ _
end Go.Proofs.Qxb6608940a
