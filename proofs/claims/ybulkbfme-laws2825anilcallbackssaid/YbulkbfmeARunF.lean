import Derived.Test.YbulkbfmeARunA
namespace Go.Proofs.Ybulkbfme
open Go.RowKit
set_option linter.unusedSimpArgs false
set_option linter.unusedVariables false

set_option maxRecDepth 100000 in
set_option maxHeartbeats 2000000 in
theorem tail23 (ds dl : Bool) (or nr i tO tN lO lN pO pN kn ls ch rel W E : Int) (w : World) (R : Nat) (vs vl : Value)  (u0 u1 u2 u4 u5 u6 u7 u8 u9 u10 u11 u12 u14 u15 u16 u17 u19 u20 u21 u22 u23 u24 u25 u26 u27 u28 u29 u30 u31 u32 u33 u34 u35 u36 u37 u38 u39 u40 u41 u42 u43 u44 u45 u46 u47 u48 u49 u50 u51 u52 u53 u54 u55 u56 u57 u58 u59 u60 u61 u62 u63 u64 u65 u66 u67 u68 u69 u70 u71 u72 u73 u74 u75 u76 u77 u78 u79 u80 u81 u82 u83 u84 u85 u86 u87 u88 u89 u90 u91 u92 u93 u94 u95 u96 u97 u98 u99 u100 u101 u102 u103 u104 u105 u106 u107 u108 u109 u110 u111 u112 u113 u114 u115 u116 u117 u118 u119 u120 u121 u122 u123 u124 u125 u126 u127 u128 u129 u130 u131 u132 u133 u134 u135 u136 u137 u138 u139 u140 u141 u142 u143 u144 u145 u146 u147 u148 u149 u150 u151 u152 u153 u154 u155 u156 u157 u158 u159 u160 u161 u162 u163 u164 u165 u166 u167 u168 u169 u170 u171 u172 u173 u174 u175 u176 u177 u178 u179 u180 u181 u182 u183 u184 u185 u186 u187 u188 u189 u190 u191 u192 u193 u194 u195 u196 u197 u198 u199 u200 u201 u202 u203 u204 u205 u206 u207 u208 u209 u210 u211 u212 u213 u214 u215 u216 u217 u218 u219 u220 u221 u222 u223 u224 u225 u226 u227 u228 u229 u230 u231 u232 u233 u234 u235 u236 u237 u238 u239 u240 u241 u242 u243 : Value) (wx : World) (A : Aft ds dl or nr i tO tN lO lN pO pN kn ls ch rel W E w R vs vl wx) :
    Code.wp Yba.prog ((Yba.f7.body.bind (dropS 23)).getD .skip) (bodyPost Yba.prog Yba.f7 fun e w' => e = .returned (.bool true) ∧ Below w.heap.size w w') ⟨#[u0, u1, u2, .pointer (some ⟨w.heap.size, 0, none⟩), u4, u5, u6, u7, u8, u9, u10, u11, u12, .pointer (some ⟨R + 1 + 1 + 1 + 1, 0, none⟩), u14, u15, u16, u17, .bool (endsB (nr % 4) tN (or % 4) tO), u19, u20, u21, u22, u23, u24, u25, u26, u27, u28, u29, u30, u31, u32, u33, u34, u35, u36, u37, u38, u39, u40, u41, u42, u43, u44, u45, u46, u47, u48, u49, u50, u51, u52, u53, u54, u55, u56, u57, u58, u59, u60, u61, u62, u63, u64, u65, u66, u67, u68, u69, u70, u71, u72, u73, u74, u75, u76, u77, u78, u79, u80, u81, u82, u83, u84, u85, u86, u87, u88, u89, u90, u91, u92, u93, u94, u95, u96, u97, u98, u99, u100, u101, u102, u103, u104, u105, u106, u107, u108, u109, u110, u111, u112, u113, u114, u115, u116, u117, u118, u119, u120, u121, u122, u123, u124, u125, u126, u127, u128, u129, u130, u131, u132, u133, u134, u135, u136, u137, u138, u139, u140, u141, u142, u143, u144, u145, u146, u147, u148, u149, u150, u151, u152, u153, u154, u155, u156, u157, u158, u159, u160, u161, u162, u163, u164, u165, u166, u167, u168, u169, u170, u171, u172, u173, u174, u175, u176, u177, u178, u179, u180, u181, u182, u183, u184, u185, u186, u187, u188, u189, u190, u191, u192, u193, u194, u195, u196, u197, u198, u199, u200, u201, u202, u203, u204, u205, u206, u207, u208, u209, u210, u211, u212, u213, u214, u215, u216, u217, u218, u219, u220, u221, u222, u223, u224, u225, u226, u227, u228, u229, u230, u231, u232, u233, u234, u235, u236, u237, u238, u239, u240, u241, u242, u243], []⟩ wx := by
  conv => arg 2; whnf
  have hR := A.hR
  have hz := A.hz
  have iC := cells_at A.bi
  have n39 := A.n39
  have n41 := A.n41
  have n44 := A.n44
  have HB : Hid (Below w.heap.size w wx) := A.bel
  clear A
  obtain ⟨bB, hbB⟩ : ∃ b, b = (endsB (nr % 4) tN (or % 4) tO) := ⟨_, rfl⟩
  rw [← hbB] at n41 ⊢
  clear hbB
  go_upto_if 199 with fail
  go_cut [21] (fun a wy => a = .int .u64 (lsOf ls bB) ∧ wy = wx)
  case first =>
    cases bB
    · go_wp2_with fail
      go_meet
      case rel => exact ⟨rfl, rfl⟩
    · go_wp2_with fail
      go_meet
      case rel => exact ⟨rfl, rfl⟩
  case rest =>
    obtain ⟨e21, ew⟩ := hcut
    subst e21 ew
    cases h1 : (lN != 0)
    · have c1 : chOf ch kn lN = ch := by simp [chOf, h1]
      have c2 : knOf kn lN = kn := by simp [knOf, h1]
      rw [c1] at n39
      rw [c2] at n44
      clear c1 c2
      go_wp2_with fail
      go_ret
      exact ⟨rfl, HB.out⟩
    · cases h2 : (lN != kn)
      · have c1 : chOf ch kn lN = ch := by simp [chOf, h1, h2]
        have c2 : knOf kn lN = kn := by simp [knOf, h1, h2]
        rw [c1] at n39
        rw [c2] at n44
        clear c1 c2
        go_wp2_with fail
        go_ret
        exact ⟨rfl, HB.out⟩
      · have c1 : chOf ch kn lN = IntKind.u64.wrap (ch + 1) := by simp [chOf, h1, h2]
        have c2 : knOf kn lN = lN := by simp [knOf, h1, h2]
        rw [c1] at n39
        rw [c2] at n44
        clear c1 c2
        go_wp2_with fail
        go_ret
        exact ⟨rfl, HB.out⟩

end Go.Proofs.Ybulkbfme
