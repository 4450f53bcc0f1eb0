import Derived.Test.YbulkbfoiRunD
namespace Go.Proofs.Ybulkbfoi
open Go.RowKit
set_option linter.unusedSimpArgs false
set_option linter.unusedVariables false
set_option maxRecDepth 100000 in
set_option maxHeartbeats 2000000 in
theorem tail9 (a0 a1 a2 a3 : Option Addr) (len0 cap0 len1 cap1 len2 cap2 len3 cap3 : Nat) (q qid : Int) (w : World) (n : Nat) (ids md : Nat → Int) (ds ps : List Int) (tid : Nat → Int) (tf fp : Nat → Option Addr) (ms : Nat → Int) (u6 u7 u8 u9 u10 u11 u17 u18 u19 u20 u21 u23 u24 u25 u26 u27 u28 u29 u30 u31 u32 u33 u34 u35 u36 u37 u38 u39 u40 u41 u42 u43 u44 u45 u46 u47 u48 u49 u50 u51 u52 u53 u54 u55 u56 u57 u58 u59 u60 u61 u62 u63 u64 u65 u66 u67 u68 u69 u70 u71 u72 u73 u74 u75 u76 u77 u78 u79 u80 u81 u82 u83 u84 u85 u86 u87 u88 u89 u90 u91 u92 u93 u94 u95 u96 u97 u98 u99 u100 u101 u102 u103 u104 u105 u106 u107 u108 u109 u110 u111 u112 u113 u114 u115 u116 u117 u118 u119 u120 u121 u122 u123 u124 u125 u126 u127 u128 u129 u130 u131 u132 u133 u134 u135 u136 u137 u138 u139 u140 u141 u142 u143 u144 u145 u146 u147 u148 u149 u150 u151 u152 u153 u154 u155 u156 u157 u158 u159 u160 u161 u162 u163 u164 u165 u166 u167 u168 u169 u170 u171 u172 u173 u174 u175 u176 u177 u178 u179 u180 u181 u182 u183 u184 u185 u186 u187 u188 u189 u190 u191 u192 u193 u194 u195 u196 u197 u198 u199 u200 u201 u202 u203 u204 u205 u206 u207 u208 u209 u210 u211 u212 u213 u214 u215 u216 u217 u218 u219 u220 u221 u222 u223 u224 u225 u226 u227 u228 u229 u230 u231 u232 u233 u234 u235 u236 u237 u238 u239 u240 u241 u242 u243 u244 u245 u246 u247 : Value) (wx : World) (E : Env a0 a1 a2 a3 len0 cap0 len1 cap1 len2 cap2 len3 cap3 q qid w n ids md ds ps) (M : Mem w.heap.size w n ids md ds n tid tf fp ms wx) :
    Code.wp Yba.prog ((Yba.f3.body.bind (dropS 9)).getD .skip) (bodyPost Yba.prog Yba.f3 fun e w' => e = .returned (.bool true) ∧ Below w.heap.size w w') ⟨#[.slice a0 len0 cap0, .slice a1 len1 cap1, .slice a2 len2 cap2, .slice a3 len3 cap3, .int .u8 q, .int .u64 qid, u6, u7, u8, u9, u10, u11, .bool false, .int .i64 n, .pointer (some ⟨w.heap.size + 1, 0, none⟩), .slice (some ⟨w.heap.size + 2, 0, none⟩) n n, .slice (some ⟨w.heap.size + 3, 0, none⟩) n n, u17, u18, u19, u20, u21, .int .u64 qid, u23, u24, u25, u26, u27, u28, u29, u30, u31, u32, u33, u34, u35, u36, u37, u38, u39, u40, u41, u42, u43, u44, u45, u46, u47, u48, u49, u50, u51, u52, u53, u54, u55, u56, u57, u58, u59, u60, u61, u62, u63, u64, u65, u66, u67, u68, u69, u70, u71, u72, u73, u74, u75, u76, u77, u78, u79, u80, u81, u82, u83, u84, u85, u86, u87, u88, u89, u90, u91, u92, u93, u94, u95, u96, u97, u98, u99, u100, u101, u102, u103, u104, u105, u106, u107, u108, u109, u110, u111, u112, u113, u114, u115, u116, u117, u118, u119, u120, u121, u122, u123, u124, u125, u126, u127, u128, u129, u130, u131, u132, u133, u134, u135, u136, u137, u138, u139, u140, u141, u142, u143, u144, u145, u146, u147, u148, u149, u150, u151, u152, u153, u154, u155, u156, u157, u158, u159, u160, u161, u162, u163, u164, u165, u166, u167, u168, u169, u170, u171, u172, u173, u174, u175, u176, u177, u178, u179, u180, u181, u182, u183, u184, u185, u186, u187, u188, u189, u190, u191, u192, u193, u194, u195, u196, u197, u198, u199, u200, u201, u202, u203, u204, u205, u206, u207, u208, u209, u210, u211, u212, u213, u214, u215, u216, u217, u218, u219, u220, u221, u222, u223, u224, u225, u226, u227, u228, u229, u230, u231, u232, u233, u234, u235, u236, u237, u238, u239, u240, u241, u242, u243, u244, u245, u246, u247], []⟩ wx := by
  conv => arg 2; whnf
  let Q' : Exit → Act → World → Prop := (bodyPost Yba.prog Yba.f3 fun e w' => e = .returned (.bool true) ∧ Below w.heap.size w w')
  show Code.wp Yba.prog _ Q' _ _
  have hq0 := E.q0.1
  have hq1 := E.q0.2
  have hn8 := E.n8
  have hnl := E.nl
  refine seq_cut fun J K hJ hK => ?_
  by_cases hn : 0 < n
  · have hn' : (0 : Int) < (n : Int) := by omega
    by_cases hq : (q % 2 == 0) = true
    · obtain ⟨k, hk⟩ : ∃ k : Nat, (k : Int) = (q / 2) % (n : Int) := ⟨((q / 2) % (n : Int)).toNat, by have := Int.emod_nonneg (q / 2) (show (n : Int) ≠ 0 by omega); omega⟩
      have hkn : k < n := by have := Int.emod_lt_of_pos (q / 2) hn'; omega
      obtain ⟨b0, o0, ha0, hb0, hc0⟩ := E.i0 k (by omega)
      have hid := (M.bel.cell (p := ⟨b0, o0 + k, none⟩) hb0).trans hc0
      subst ha0
      have HM := hide M
      have HE := hide E
      have hq2 : 0 ≤ q / 2 := by omega
      clear M E hc0
      have hk' := hk.symm
      clear hk
      go_wp2_with fail
      refine Met.intro (hJ.out _ _ ?_)
      exact tail10 (some ⟨b0, o0, none⟩) a1 a2 a3 len0 cap0 len1 cap1 len2 cap2 len3 cap3 q qid w n ids md ds ps (ids k) tid tf fp ms _ _ _ _ _ _ _ _ _ _ _ _ _ _ _ _ _ _ _ _ _ _ _ _ _ _ _ _ _ _ _ _ _ _ _ _ _ _ _ _ _ _ _ _ _ _ _ _ _ _ _ _ _ _ _ _ _ _ _ _ _ _ _ _ _ _ _ _ _ _ _ _ _ _ _ _ _ _ _ _ _ _ _ _ _ _ _ _ _ _ _ _ _ _ _ _ _ _ _ _ _ _ _ _ _ _ _ _ _ _ _ _ _ _ _ _ _ _ _ _ _ _ _ _ _ _ _ _ _ _ _ _ _ _ _ _ _ _ _ _ _ _ _ _ _ _ _ _ _ _ _ _ _ _ _ _ _ _ _ _ _ _ _ _ _ _ _ _ _ _ _ _ _ _ _ _ _ _ _ _ _ _ _ _ _ _ _ _ _ _ _ _ _ _ _ _ _ _ _ _ _ _ _ _ _ _ _ _ _ _ _ _ _ _ _ _ _ _ _ _ _ _ _ _ _ _ _ _ _ _ _ _ _ _ _ _ _ HE.out HM.out
    · have hq' : (q % 2 == 0) = false := by simpa using hq
      have HM := hide M
      have HE := hide E
      clear M E
      go_wp2_with fail
      refine Met.intro (hJ.out _ _ ?_)
      exact tail10 a0 a1 a2 a3 len0 cap0 len1 cap1 len2 cap2 len3 cap3 q qid w n ids md ds ps qid tid tf fp ms _ _ _ _ _ _ _ _ _ _ _ _ _ _ _ _ _ _ _ _ _ _ _ _ _ _ _ _ _ _ _ _ _ _ _ _ _ _ _ _ _ _ _ _ _ _ _ _ _ _ _ _ _ _ _ _ _ _ _ _ _ _ _ _ _ _ _ _ _ _ _ _ _ _ _ _ _ _ _ _ _ _ _ _ _ _ _ _ _ _ _ _ _ _ _ _ _ _ _ _ _ _ _ _ _ _ _ _ _ _ _ _ _ _ _ _ _ _ _ _ _ _ _ _ _ _ _ _ _ _ _ _ _ _ _ _ _ _ _ _ _ _ _ _ _ _ _ _ _ _ _ _ _ _ _ _ _ _ _ _ _ _ _ _ _ _ _ _ _ _ _ _ _ _ _ _ _ _ _ _ _ _ _ _ _ _ _ _ _ _ _ _ _ _ _ _ _ _ _ _ _ _ _ _ _ _ _ _ _ _ _ _ _ _ _ _ _ _ _ _ _ _ _ _ _ _ _ _ _ _ _ _ _ _ _ _ _ HE.out HM.out
  · have hn0 : n = 0 := by omega
    subst hn0
    have HM := hide M
    have HE := hide E
    clear M E
    go_wp2_with fail
    refine Met.intro (hJ.out _ _ ?_)
    exact tail10 a0 a1 a2 a3 len0 cap0 len1 cap1 len2 cap2 len3 cap3 q qid w 0 ids md ds ps qid tid tf fp ms _ _ _ _ _ _ _ _ _ _ _ _ _ _ _ _ _ _ _ _ _ _ _ _ _ _ _ _ _ _ _ _ _ _ _ _ _ _ _ _ _ _ _ _ _ _ _ _ _ _ _ _ _ _ _ _ _ _ _ _ _ _ _ _ _ _ _ _ _ _ _ _ _ _ _ _ _ _ _ _ _ _ _ _ _ _ _ _ _ _ _ _ _ _ _ _ _ _ _ _ _ _ _ _ _ _ _ _ _ _ _ _ _ _ _ _ _ _ _ _ _ _ _ _ _ _ _ _ _ _ _ _ _ _ _ _ _ _ _ _ _ _ _ _ _ _ _ _ _ _ _ _ _ _ _ _ _ _ _ _ _ _ _ _ _ _ _ _ _ _ _ _ _ _ _ _ _ _ _ _ _ _ _ _ _ _ _ _ _ _ _ _ _ _ _ _ _ _ _ _ _ _ _ _ _ _ _ _ _ _ _ _ _ _ _ _ _ _ _ _ _ _ _ _ _ _ _ _ _ _ _ _ _ _ _ _ _ HE.out HM.out

set_option maxRecDepth 100000 in
set_option maxHeartbeats 2000000 in
theorem tail8 (a0 a1 a2 a3 : Option Addr) (len0 cap0 len1 cap1 len2 cap2 len3 cap3 : Nat) (q qid : Int) (w : World) (n : Nat) (ids md : Nat → Int) (ds ps : List Int)  (u6 u7 u8 u9 u10 u11 u17 u18 u19 u20 u21 u22 u23 u24 u25 u26 u27 u28 u29 u30 u31 u32 u33 u34 u35 u36 u37 u38 u39 u40 u41 u42 u43 u44 u45 u46 u47 u48 u49 u50 u51 u52 u53 u54 u55 u56 u57 u58 u59 u60 u61 u62 u63 u64 u65 u66 u67 u68 u69 u70 u71 u72 u73 u74 u75 u76 u77 u78 u79 u80 u81 u82 u83 u84 u85 u86 u87 u88 u89 u90 u91 u92 u93 u94 u95 u96 u97 u98 u99 u100 u101 u102 u103 u104 u105 u106 u107 u108 u109 u110 u111 u112 u113 u114 u115 u116 u117 u118 u119 u120 u121 u122 u123 u124 u125 u126 u127 u128 u129 u130 u131 u132 u133 u134 u135 u136 u137 u138 u139 u140 u141 u142 u143 u144 u145 u146 u147 u148 u149 u150 u151 u152 u153 u154 u155 u156 u157 u158 u159 u160 u161 u162 u163 u164 u165 u166 u167 u168 u169 u170 u171 u172 u173 u174 u175 u176 u177 u178 u179 u180 u181 u182 u183 u184 u185 u186 u187 u188 u189 u190 u191 u192 u193 u194 u195 u196 u197 u198 u199 u200 u201 u202 u203 u204 u205 u206 u207 u208 u209 u210 u211 u212 u213 u214 u215 u216 u217 u218 u219 u220 u221 u222 u223 u224 u225 u226 u227 u228 u229 u230 u231 u232 u233 u234 u235 u236 u237 u238 u239 u240 u241 u242 u243 u244 u245 u246 u247 : Value) (wx : World) (E : Env a0 a1 a2 a3 len0 cap0 len1 cap1 len2 cap2 len3 cap3 q qid w n ids md ds ps) (tid : Nat → Int) (tf fp : Nat → Option Addr) (ms : Nat → Int) (M : Mem w.heap.size w n ids md ds n tid tf fp ms wx) :
    Code.wp Yba.prog ((Yba.f3.body.bind (dropS 8)).getD .skip) (bodyPost Yba.prog Yba.f3 fun e w' => e = .returned (.bool true) ∧ Below w.heap.size w w') ⟨#[.slice a0 len0 cap0, .slice a1 len1 cap1, .slice a2 len2 cap2, .slice a3 len3 cap3, .int .u8 q, .int .u64 qid, u6, u7, u8, u9, u10, u11, .bool false, .int .i64 n, .pointer (some ⟨w.heap.size + 1, 0, none⟩), .slice (some ⟨w.heap.size + 2, 0, none⟩) n n, .slice (some ⟨w.heap.size + 3, 0, none⟩) n n, u17, u18, u19, u20, u21, u22, u23, u24, u25, u26, u27, u28, u29, u30, u31, u32, u33, u34, u35, u36, u37, u38, u39, u40, u41, u42, u43, u44, u45, u46, u47, u48, u49, u50, u51, u52, u53, u54, u55, u56, u57, u58, u59, u60, u61, u62, u63, u64, u65, u66, u67, u68, u69, u70, u71, u72, u73, u74, u75, u76, u77, u78, u79, u80, u81, u82, u83, u84, u85, u86, u87, u88, u89, u90, u91, u92, u93, u94, u95, u96, u97, u98, u99, u100, u101, u102, u103, u104, u105, u106, u107, u108, u109, u110, u111, u112, u113, u114, u115, u116, u117, u118, u119, u120, u121, u122, u123, u124, u125, u126, u127, u128, u129, u130, u131, u132, u133, u134, u135, u136, u137, u138, u139, u140, u141, u142, u143, u144, u145, u146, u147, u148, u149, u150, u151, u152, u153, u154, u155, u156, u157, u158, u159, u160, u161, u162, u163, u164, u165, u166, u167, u168, u169, u170, u171, u172, u173, u174, u175, u176, u177, u178, u179, u180, u181, u182, u183, u184, u185, u186, u187, u188, u189, u190, u191, u192, u193, u194, u195, u196, u197, u198, u199, u200, u201, u202, u203, u204, u205, u206, u207, u208, u209, u210, u211, u212, u213, u214, u215, u216, u217, u218, u219, u220, u221, u222, u223, u224, u225, u226, u227, u228, u229, u230, u231, u232, u233, u234, u235, u236, u237, u238, u239, u240, u241, u242, u243, u244, u245, u246, u247], []⟩ wx := by
  conv => arg 2; whnf
  let Q' : Exit → Act → World → Prop := (bodyPost Yba.prog Yba.f3 fun e w' => e = .returned (.bool true) ∧ Below w.heap.size w w')
  show Code.wp Yba.prog _ Q' _ _
  refine seq_cut fun J K hJ hK => ?_
  go_wp2_with fail
  refine Met.intro (hJ.out _ _ ?_)
  exact tail9 a0 a1 a2 a3 len0 cap0 len1 cap1 len2 cap2 len3 cap3 q qid w n ids md ds ps tid tf fp ms _ _ _ _ _ _ _ _ _ _ _ _ _ _ _ _ _ _ _ _ _ _ _ _ _ _ _ _ _ _ _ _ _ _ _ _ _ _ _ _ _ _ _ _ _ _ _ _ _ _ _ _ _ _ _ _ _ _ _ _ _ _ _ _ _ _ _ _ _ _ _ _ _ _ _ _ _ _ _ _ _ _ _ _ _ _ _ _ _ _ _ _ _ _ _ _ _ _ _ _ _ _ _ _ _ _ _ _ _ _ _ _ _ _ _ _ _ _ _ _ _ _ _ _ _ _ _ _ _ _ _ _ _ _ _ _ _ _ _ _ _ _ _ _ _ _ _ _ _ _ _ _ _ _ _ _ _ _ _ _ _ _ _ _ _ _ _ _ _ _ _ _ _ _ _ _ _ _ _ _ _ _ _ _ _ _ _ _ _ _ _ _ _ _ _ _ _ _ _ _ _ _ _ _ _ _ _ _ _ _ _ _ _ _ _ _ _ _ _ _ _ _ _ _ _ _ _ _ _ _ _ _ _ _ _ _ _ E M

end Go.Proofs.Ybulkbfoi
