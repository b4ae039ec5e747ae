import Derived.Test.Qxb6608940aW7
namespace Go.Proofs.Qxb6608940a
open Go.RowKit
set_option linter.unusedVariables false

/-- The code behind the first n statements. -/
def tailAt : Nat → Code → Code
  | n + 1, .seq _ b => tailAt n b
  | _, c => c

set_option maxRecDepth 1000000 in
set_option maxHeartbeats 8000000 in
theorem tail3 (w0 w11 : World) (nx ed lm1 lm2 : Int) (x1 x2 lw : Bool) (HF : Hid ((lm1 ≤ lm2 → x2 = true → x1 = true) ∧ (lm2 ≤ lm1 → x1 = true → x2 = true) ∧ (lm1 ≤ nx → x1 = lw) ∧ (lm2 ≤ nx → x2 = lw) ∧ (ed ≤ lm1 → x1 = false) ∧ (ed ≤ lm2 → x2 = false))) (HB11 : Hid (Below w0.heap.size w0 w11)) (u0 u1 u2 u3 u4 u9 u10 u11 u12 u13 u14 u15 u16 u17 u18 u19 u20 u21 u22 u23 u27 u28 u29 u30 u31 u32 u33 u34 u35 u36 u37 u38 u39 u40 u41 u42 u43 u44 u45 u46 u47 u48 u49 u50 u51 u52 u53 u54 u55 u56 u57 u58 u59 u60 u61 u62 u63 u64 u65 u66 u67 u68 u69 u70 u71 u72 u73 u74 u75 u76 u77 u78 u79 u80 u81 u82 u83 u84 u85 u86 u87 u88 u89 u90 u91 u92 u93 u94 u95 u96 u97 u98 u99 u100 u101 u102 u103 u104 u105 u106 u107 u108 u109 u110 u111 u112 u113 u114 u115 u116 u117 u118 u119 u120 u121 u122 u123 u124 u125 u126 u127 u128 u129 u130 u131 u132 u133 u134 u135 u136 u137 u138 u139 u140 u141 u142 u143 u144 u145 u146 u147 u148 u149 u150 u151 u152 u153 u154 u155 u156 u157 u158 u159 u160 u161 u162 u163 u164 u165 u166 u167 u168 u169 u170 u171 u172 u173 u174 u175 u176 u177 u178 u179 u180 u181 u182 u183 u184 u185 u186 u187 u188 u189 u190 u191 u192 : Value) :
    Code.wp Try.prog (tailAt 13 (Try.f6.body.getD .skip)) (bodyPost Try.prog Try.f6 fun e w' => e = .returned (.bool true) ∧ Below w0.heap.size w0 w') ⟨#[u0, u1, u2, u3, u4, .int .u64 nx, .int .u64 ed, .int .u64 lm1, .int .u64 lm2, u9, u10, u11, u12, u13, u14, u15, u16, u17, u18, u19, u20, u21, u22, u23, .bool x1, .bool x2, .bool lw, u27, u28, u29, u30, u31, u32, u33, u34, u35, u36, u37, u38, u39, u40, u41, u42, u43, u44, u45, u46, u47, u48, u49, u50, u51, u52, u53, u54, u55, u56, u57, u58, u59, u60, u61, u62, u63, u64, u65, u66, u67, u68, u69, u70, u71, u72, u73, u74, u75, u76, u77, u78, u79, u80, u81, u82, u83, u84, u85, u86, u87, u88, u89, u90, u91, u92, u93, u94, u95, u96, u97, u98, u99, u100, u101, u102, u103, u104, u105, u106, u107, u108, u109, u110, u111, u112, u113, u114, u115, u116, u117, u118, u119, u120, u121, u122, u123, u124, u125, u126, u127, u128, u129, u130, u131, u132, u133, u134, u135, u136, u137, u138, u139, u140, u141, u142, u143, u144, u145, u146, u147, u148, u149, u150, u151, u152, u153, u154, u155, u156, u157, u158, u159, u160, u161, u162, u163, u164, u165, u166, u167, u168, u169, u170, u171, u172, u173, u174, u175, u176, u177, u178, u179, u180, u181, u182, u183, u184, u185, u186, u187, u188, u189, u190, u191, u192], []⟩ w11 := by
  conv => arg 2; whnf
  dsimp only
  go_upto_region 32 with fail
  go_cut [154] (fun s wx => s = .bool false ∧ w11 = wx)
  case first =>
    by_cases h : lm1 ≤ lm2
    · have dd : decide (lm1 ≤ lm2) = true := by simpa using h
      have f := HF.out.1 h
      cases x2 with
      | false =>
        go_wp2_with fail
        go_meet
        exact ⟨rfl, rfl⟩
      | true =>
        cases x1 with
        | true =>
          go_wp2_with fail
          go_meet
          exact ⟨rfl, rfl⟩
        | false => exact absurd (f rfl) (by simp)
    · have dd : decide (lm1 ≤ lm2) = false := by simpa using h
      go_wp2_with fail
      go_meet
      exact ⟨rfl, rfl⟩
  case rest =>
  obtain ⟨rfl, hw⟩ := hcut
  subst hw
  go_upto_region 34 with fail
  go_cut [164] (fun s wx => s = .bool false ∧ w11 = wx)
  case first =>
    by_cases h : lm2 ≤ lm1
    · have dd : decide (lm2 ≤ lm1) = true := by simpa using h
      have f := HF.out.2.1 h
      cases x1 with
      | false =>
        go_wp2_with fail
        go_meet
        exact ⟨rfl, rfl⟩
      | true =>
        cases x2 with
        | true =>
          go_wp2_with fail
          go_meet
          exact ⟨rfl, rfl⟩
        | false => exact absurd (f rfl) (by simp)
    · have dd : decide (lm2 ≤ lm1) = false := by simpa using h
      go_wp2_with fail
      go_meet
      exact ⟨rfl, rfl⟩
  case rest =>
  obtain ⟨rfl, hw⟩ := hcut
  subst hw
  go_upto_region 36 with fail
  go_cut [172] (fun s wx => s = .bool false ∧ w11 = wx)
  case first =>
    by_cases h : lm1 ≤ nx
    · have dd : decide (lm1 ≤ nx) = true := by simpa using h
      have f := HF.out.2.2.1 h
      cases x1 <;> cases lw
      · go_wp2_with fail
        go_meet
        exact ⟨rfl, rfl⟩
      · cases f
      · cases f
      · go_wp2_with fail
        go_meet
        exact ⟨rfl, rfl⟩
    · have dd : decide (lm1 ≤ nx) = false := by simpa using h
      go_wp2_with fail
      go_meet
      exact ⟨rfl, rfl⟩
  case rest =>
  obtain ⟨rfl, hw⟩ := hcut
  subst hw
  go_upto_region 38 with fail
  go_cut [180] (fun s wx => s = .bool false ∧ w11 = wx)
  case first =>
    by_cases h : lm2 ≤ nx
    · have dd : decide (lm2 ≤ nx) = true := by simpa using h
      have f := HF.out.2.2.2.1 h
      cases x2 <;> cases lw
      · go_wp2_with fail
        go_meet
        exact ⟨rfl, rfl⟩
      · cases f
      · cases f
      · go_wp2_with fail
        go_meet
        exact ⟨rfl, rfl⟩
    · have dd : decide (lm2 ≤ nx) = false := by simpa using h
      go_wp2_with fail
      go_meet
      exact ⟨rfl, rfl⟩
  case rest =>
  obtain ⟨rfl, hw⟩ := hcut
  subst hw
  go_upto_region 40 with fail
  go_cut [186] (fun s wx => s = .bool false ∧ w11 = wx)
  case first =>
    by_cases h : ed ≤ lm1
    · have dd : decide (ed ≤ lm1) = true := by simpa using h
      have f := HF.out.2.2.2.2.1 h
      cases x1 with
      | false =>
        go_wp2_with fail
        go_meet
        exact ⟨rfl, rfl⟩
      | true => cases f
    · have dd : decide (ed ≤ lm1) = false := by simpa using h
      go_wp2_with fail
      go_meet
      exact ⟨rfl, rfl⟩
  case rest =>
  obtain ⟨rfl, hw⟩ := hcut
  subst hw
  go_upto_region 42 with fail
  go_cut [192] (fun s wx => s = .bool false ∧ w11 = wx)
  case first =>
    by_cases h : ed ≤ lm2
    · have dd : decide (ed ≤ lm2) = true := by simpa using h
      have f := HF.out.2.2.2.2.2 h
      cases x2 with
      | false =>
        go_wp2_with fail
        go_meet
        exact ⟨rfl, rfl⟩
      | true => cases f
    · have dd : decide (ed ≤ lm2) = false := by simpa using h
      go_wp2_with fail
      go_meet
      exact ⟨rfl, rfl⟩
  case rest =>
  obtain ⟨rfl, hw⟩ := hcut
  subst hw
  go_wp2_with fail
  go_ret
  exact ⟨rfl, HB11.out⟩
end Go.Proofs.Qxb6608940a
