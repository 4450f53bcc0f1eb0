import Derived.Test.YbulkbfpkFin
import Derived.Maps.AppendAt
import Derived.Laws.AppendOwnNone
namespace Go.Proofs.Ybulkbfpk
open Go.RowKit
set_option maxRecDepth 100000 in
set_option maxHeartbeats 2000000 in
theorem tail17 (I : Inp) (A : Arg) (P : Ptrs) (CU B g0 g1 q0 q1 : Nat) (w wq : World) (v2 v3 v4 v5 : Value)  (u3 u4 u5 u6 u8 u18 u19 u20 u22 u23 u24 u25 u26 u27 u28 u29 u30 u31 u32 u33 u34 u35 u36 u37 u38 u39 u40 u41 u42 u43 u44 u45 u46 u47 u48 u49 u50 u51 u52 u53 u54 u55 u56 u57 u58 u59 u60 u61 u62 u63 u64 u65 u66 u67 u68 u69 u70 u71 u72 u73 u74 u75 u76 u77 u78 u79 u80 u81 u82 u83 u84 u85 u86 u87 u88 u89 u90 u91 u92 u93 u94 u95 u96 u97 u98 u99 u100 u101 u102 u103 u104 u105 u106 u107 u108 u109 u110 u111 u112 u113 u114 u115 u116 u117 u118 u119 u120 u121 u122 u123 u124 u125 u126 u127 u128 u129 u130 u131 u132 u133 u134 u135 u136 u137 u138 u139 u140 u141 u142 u143 u144 u145 u146 u147 u148 u149 u150 u151 u152 u153 u154 u155 u156 u157 u158 u159 u160 u161 u162 u163 u164 u165 u166 u167 u168 u169 u170 u171 u172 u173 u174 u175 u176 u177 u178 u179 u180 u181 u182 u183 u184 u185 u186 u187 u188 u189 u190 u191 u192 u193 u194 u195 u196 u197 u198 u199 u200 u201 u202 u203 u204 u205 u206 u207 u208 u209 u210 u211 u212 u213 u214 u215 u216 u217 u218 u219 u220 u221 u222 u223 u224 u225 u226 u227 u228 u229 u230 u231 u232 u233 u234 u235 u236 u237 u238 u239 u240 u241 u242 u243 u244 u245 u246 u247 u248 u249 u250 u251 u252 u253 u254 u255 u256 u257 u258 u259 u260 u261 u262 u263 u264 u265 u266 u267 u268 u269 u270 u271 u272 u273 u274 u275 u276 u277 u278 u279 u280 u281 u282 u283 u284 u285 u286 u287 u288 u289 u290 u291 u292 u293 u294 u295 u296 u297 u298 u299 u300 u301 u302 u303 u304 u305 u306 u307 u308 u309 u310 u311 u312 u313 u314 u315 u316 u317 u318 u319 u320 u321 u322 u323 u324 u325 u326 u327 u328 u329 u330 u331 u332 u333 u334 u335 u336 u337 u338 u339 u340 u341 u342 u343 u344 : Value) (wx : World) (F : Fin I A P (ids A CU w.heap.size B) wq.heap.size (mr (.slice (some ⟨g0, 0, none⟩) (I.K I.n) q0) (.slice (some ⟨g1, 0, none⟩) (I.K I.n) q1) v2 v3 v4 v5 (.slice (some ⟨wq.heap.size, 0, none⟩) I.n I.n) (I.keptL I.n) (I.roomL I.n) (I.X I.n 0) (I.X I.n 1) (I.X I.n 2) (I.X I.n 3) (I.nidL I.n)) w wx)  :
    Code.wp Yba.prog ((Yba.f3.body.bind (dropS 17)).getD .skip) (bodyPost Yba.prog Yba.f3 fun e w' => e = .returned (.bool true) ∧ Below w.heap.size w w') ⟨#[.slice (some ⟨A.ab, A.ao, none⟩) I.n A.acap, .slice A.a1 A.c A.ccap, .bool I.kd, u3, u4, u5, u6, .int .i64 I.n, u8, .pointer (some ⟨w.heap.size, 0, none⟩), .slice (some ⟨w.heap.size + 2, 0, none⟩) I.n I.n, .slice (some ⟨g0, 0, none⟩) (I.K I.n) q0, .slice (some ⟨g1, 0, none⟩) (I.K I.n) q1, .slice (some ⟨wq.heap.size, 0, none⟩) I.n I.n, v2, v3, v4, v5, u18, u19, u20, .int .i64 (I.K I.n), u22, u23, u24, u25, u26, u27, u28, u29, u30, u31, u32, u33, u34, u35, u36, u37, u38, u39, u40, u41, u42, u43, u44, u45, u46, u47, u48, u49, u50, u51, u52, u53, u54, u55, u56, u57, u58, u59, u60, u61, u62, u63, u64, u65, u66, u67, u68, u69, u70, u71, u72, u73, u74, u75, u76, u77, u78, u79, u80, u81, u82, u83, u84, u85, u86, u87, u88, u89, u90, u91, u92, u93, u94, u95, u96, u97, u98, u99, u100, u101, u102, u103, u104, u105, u106, u107, u108, u109, u110, u111, u112, u113, u114, u115, u116, u117, u118, u119, u120, u121, u122, u123, u124, u125, u126, u127, u128, u129, u130, u131, u132, u133, u134, u135, u136, u137, u138, u139, u140, u141, u142, u143, u144, u145, u146, u147, u148, u149, u150, u151, u152, u153, u154, u155, u156, u157, u158, u159, u160, u161, u162, u163, u164, u165, u166, u167, u168, u169, u170, u171, u172, u173, u174, u175, u176, u177, u178, u179, u180, u181, u182, u183, u184, u185, u186, u187, u188, u189, u190, u191, u192, u193, u194, u195, u196, u197, u198, u199, u200, u201, u202, u203, u204, u205, u206, u207, u208, u209, u210, u211, u212, u213, u214, u215, u216, u217, u218, u219, u220, u221, u222, u223, u224, u225, u226, u227, u228, u229, u230, u231, u232, u233, u234, u235, u236, u237, u238, u239, u240, u241, u242, u243, u244, u245, u246, u247, u248, u249, u250, u251, u252, u253, u254, u255, u256, u257, u258, u259, u260, u261, u262, u263, u264, u265, u266, u267, u268, u269, u270, u271, u272, u273, u274, u275, u276, u277, u278, u279, u280, u281, u282, u283, u284, u285, u286, u287, u288, u289, u290, u291, u292, u293, u294, u295, u296, u297, u298, u299, u300, u301, u302, u303, u304, u305, u306, u307, u308, u309, u310, u311, u312, u313, u314, u315, u316, u317, u318, u319, u320, u321, u322, u323, u324, u325, u326, u327, u328, u329, u330, u331, u332, u333, u334, u335, u336, u337, u338, u339, u340, u341, u342, u343, u344], []⟩ wx := by
  conv => arg 2; whnf
  let Q' : Exit → Act → World → Prop := (bodyPost Yba.prog Yba.f3 fun e w' => e = .returned (.bool true) ∧ Below w.heap.size w w')
  show Code.wp Yba.prog _ Q' _ _
  have E := F.env
  have hn1 := E.n1
  obtain ⟨vs, hv, hf⟩ := F.cp.ts.ex
  have HV := hide hv
  have HF := hide F
  have x0 := (hv 0 (by decide)).1
  have x1 := (hv 1 (by decide)).1
  have x2 := (hv 2 (by decide)).1
  have x3 := (hv 3 (by decide)).1
  simp only [pos, ids, if_true, if_false, Nat.reduceEqDiff, Nat.one_ne_zero] at x0 x1 x2 x3
  have hlen := fun i => I.X_len 1024 (by decide) E.sm1 I.n i (Nat.le_refl _)
  have HL := hide hlen
  have HE := hide E
  clear hlen E F hv hf
  go_wp2_with fail
  refine (equal_any (I.X I.n 0) B wq.heap.size (vs 0) v2 _ (by have := HL.out 0; omega) (I.X_ints I.n 0) (HV.out 0 (by decide)).2 (HF.out.rows.own 2 _ rfl)).mono ?_
  rintro e0 w0 ⟨rfl, b0⟩
  have F0 := HF.out.next b0
  have y1 := (World.cell?_of_block (a := ⟨w.heap.size, 71, none⟩) (b0.block _ (lt_of_cell x1))).trans x1
  have y2 := (World.cell?_of_block (a := ⟨w.heap.size, 96, none⟩) (b0.block _ (lt_of_cell x2))).trans x2
  have y3 := (World.cell?_of_block (a := ⟨w.heap.size, 53, none⟩) (b0.block _ (lt_of_cell x3))).trans x3
  have V0 : Hid (∀ i, i < 4 → w0.ownsRow B 21 1 (vs i) (I.X I.n i).length (I.X I.n i)) := fun i hi => own_kept (HV.out i hi).2 fun k _ _ hk => b0.block k hk
  have HF0 := hide F0
  clear F0 b0 x0 x1 x2 x3 HF HV
  go_wp2_with fail
  refine (equal_any (I.X I.n 1) B wq.heap.size (vs 1) v3 _ (by have := HL.out 1; omega) (I.X_ints I.n 1) (V0.out 1 (by decide)) (HF0.out.rows.own 3 _ rfl)).mono ?_
  rintro e1 w1 ⟨rfl, b1⟩
  have F1 := HF0.out.next b1
  have z2 := (World.cell?_of_block (a := ⟨w.heap.size, 96, none⟩) (b1.block _ (lt_of_cell y2))).trans y2
  have z3 := (World.cell?_of_block (a := ⟨w.heap.size, 53, none⟩) (b1.block _ (lt_of_cell y3))).trans y3
  have V1 : Hid (∀ i, i < 4 → w1.ownsRow B 21 1 (vs i) (I.X I.n i).length (I.X I.n i)) := fun i hi => own_kept (V0.out i hi) fun k _ _ hk => b1.block k hk
  have HF1 := hide F1
  clear F1 b1 y1 y2 y3 HF0 V0
  go_wp2_with fail
  refine (equal_any (I.X I.n 2) B wq.heap.size (vs 2) v4 _ (by have := HL.out 2; omega) (I.X_ints I.n 2) (V1.out 2 (by decide)) (HF1.out.rows.own 4 _ rfl)).mono ?_
  rintro e2 w2 ⟨rfl, b2⟩
  have F2 := HF1.out.next b2
  have t3 := (World.cell?_of_block (a := ⟨w.heap.size, 53, none⟩) (b2.block _ (lt_of_cell z3))).trans z3
  have V2 : Hid (∀ i, i < 4 → w2.ownsRow B 21 1 (vs i) (I.X I.n i).length (I.X I.n i)) := fun i hi => own_kept (V1.out i hi) fun k _ _ hk => b2.block k hk
  have HF2 := hide F2
  clear F2 b2 z2 z3 HF1 V1
  go_wp2_with fail
  refine (equal_any (I.X I.n 3) B wq.heap.size (vs 3) v5 _ (by have := HL.out 3; omega) (I.X_ints I.n 3) (V2.out 3 (by decide)) (HF2.out.rows.own 5 _ rfl)).mono ?_
  rintro e3 w3 ⟨rfl, b3⟩
  have HF3 := hide (HF2.out.next b3)
  clear b3
  go_wp2_with fail
  go_ret
  exact ⟨rfl, HF3.out.bel⟩

set_option maxRecDepth 100000 in
set_option maxHeartbeats 2000000 in
theorem tail16 (I : Inp) (A : Arg) (P : Ptrs) (CU B g0 g1 q0 q1 : Nat) (w wq : World) (v2 v3 v4 v5 : Value)  (u3 u4 u5 u6 u8 u18 u19 u20 u22 u23 u24 u25 u26 u27 u28 u29 u30 u31 u32 u33 u34 u35 u36 u37 u38 u39 u40 u41 u42 u43 u44 u45 u46 u47 u48 u49 u50 u51 u52 u53 u54 u55 u56 u57 u58 u59 u60 u61 u62 u63 u64 u65 u66 u67 u68 u69 u70 u71 u72 u73 u74 u75 u76 u77 u78 u79 u80 u81 u82 u83 u84 u85 u86 u87 u88 u89 u90 u91 u92 u93 u94 u95 u96 u97 u98 u99 u100 u101 u102 u103 u104 u105 u106 u107 u108 u109 u110 u111 u112 u113 u114 u115 u116 u117 u118 u119 u120 u121 u122 u123 u124 u125 u126 u127 u128 u129 u130 u131 u132 u133 u134 u135 u136 u137 u138 u139 u140 u141 u142 u143 u144 u145 u146 u147 u148 u149 u150 u151 u152 u153 u154 u155 u156 u157 u158 u159 u160 u161 u162 u163 u164 u165 u166 u167 u168 u169 u170 u171 u172 u173 u174 u175 u176 u177 u178 u179 u180 u181 u182 u183 u184 u185 u186 u187 u188 u189 u190 u191 u192 u193 u194 u195 u196 u197 u198 u199 u200 u201 u202 u203 u204 u205 u206 u207 u208 u209 u210 u211 u212 u213 u214 u215 u216 u217 u218 u219 u220 u221 u222 u223 u224 u225 u226 u227 u228 u229 u230 u231 u232 u233 u234 u235 u236 u237 u238 u239 u240 u241 u242 u243 u244 u245 u246 u247 u248 u249 u250 u251 u252 u253 u254 u255 u256 u257 u258 u259 u260 u261 u262 u263 u264 u265 u266 u267 u268 u269 u270 u271 u272 u273 u274 u275 u276 u277 u278 u279 u280 u281 u282 u283 u284 u285 u286 u287 u288 u289 u290 u291 u292 u293 u294 u295 u296 u297 u298 u299 u300 u301 u302 u303 u304 u305 u306 u307 u308 u309 u310 u311 u312 u313 u314 u315 u316 u317 u318 u319 u320 u321 u322 u323 u324 u325 u326 u327 u328 u329 u330 u331 u332 u333 u334 u335 u336 u337 u338 u339 u340 u341 u342 u343 u344 : Value) (wx : World) (F : Fin I A P (ids A CU w.heap.size B) wq.heap.size (mr (.slice (some ⟨g0, 0, none⟩) (I.K I.n) q0) (.slice (some ⟨g1, 0, none⟩) (I.K I.n) q1) v2 v3 v4 v5 (.slice (some ⟨wq.heap.size, 0, none⟩) I.n I.n) (I.keptL I.n) (I.roomL I.n) (I.X I.n 0) (I.X I.n 1) (I.X I.n 2) (I.X I.n 3) (I.nidL I.n)) w wx)  :
    Code.wp Yba.prog ((Yba.f3.body.bind (dropS 16)).getD .skip) (bodyPost Yba.prog Yba.f3 fun e w' => e = .returned (.bool true) ∧ Below w.heap.size w w') ⟨#[.slice (some ⟨A.ab, A.ao, none⟩) I.n A.acap, .slice A.a1 A.c A.ccap, .bool I.kd, u3, u4, u5, u6, .int .i64 I.n, u8, .pointer (some ⟨w.heap.size, 0, none⟩), .slice (some ⟨w.heap.size + 2, 0, none⟩) I.n I.n, .slice (some ⟨g0, 0, none⟩) (I.K I.n) q0, .slice (some ⟨g1, 0, none⟩) (I.K I.n) q1, .slice (some ⟨wq.heap.size, 0, none⟩) I.n I.n, v2, v3, v4, v5, u18, u19, u20, .int .i64 (I.K I.n), u22, u23, u24, u25, u26, u27, u28, u29, u30, u31, u32, u33, u34, u35, u36, u37, u38, u39, u40, u41, u42, u43, u44, u45, u46, u47, u48, u49, u50, u51, u52, u53, u54, u55, u56, u57, u58, u59, u60, u61, u62, u63, u64, u65, u66, u67, u68, u69, u70, u71, u72, u73, u74, u75, u76, u77, u78, u79, u80, u81, u82, u83, u84, u85, u86, u87, u88, u89, u90, u91, u92, u93, u94, u95, u96, u97, u98, u99, u100, u101, u102, u103, u104, u105, u106, u107, u108, u109, u110, u111, u112, u113, u114, u115, u116, u117, u118, u119, u120, u121, u122, u123, u124, u125, u126, u127, u128, u129, u130, u131, u132, u133, u134, u135, u136, u137, u138, u139, u140, u141, u142, u143, u144, u145, u146, u147, u148, u149, u150, u151, u152, u153, u154, u155, u156, u157, u158, u159, u160, u161, u162, u163, u164, u165, u166, u167, u168, u169, u170, u171, u172, u173, u174, u175, u176, u177, u178, u179, u180, u181, u182, u183, u184, u185, u186, u187, u188, u189, u190, u191, u192, u193, u194, u195, u196, u197, u198, u199, u200, u201, u202, u203, u204, u205, u206, u207, u208, u209, u210, u211, u212, u213, u214, u215, u216, u217, u218, u219, u220, u221, u222, u223, u224, u225, u226, u227, u228, u229, u230, u231, u232, u233, u234, u235, u236, u237, u238, u239, u240, u241, u242, u243, u244, u245, u246, u247, u248, u249, u250, u251, u252, u253, u254, u255, u256, u257, u258, u259, u260, u261, u262, u263, u264, u265, u266, u267, u268, u269, u270, u271, u272, u273, u274, u275, u276, u277, u278, u279, u280, u281, u282, u283, u284, u285, u286, u287, u288, u289, u290, u291, u292, u293, u294, u295, u296, u297, u298, u299, u300, u301, u302, u303, u304, u305, u306, u307, u308, u309, u310, u311, u312, u313, u314, u315, u316, u317, u318, u319, u320, u321, u322, u323, u324, u325, u326, u327, u328, u329, u330, u331, u332, u333, u334, u335, u336, u337, u338, u339, u340, u341, u342, u343, u344], []⟩ wx := by
  conv => arg 2; whnf
  let Q' : Exit → Act → World → Prop := (bodyPost Yba.prog Yba.f3 fun e w' => e = .returned (.bool true) ∧ Below w.heap.size w w')
  show Code.wp Yba.prog _ Q' _ _
  have E := F.env
  have hn1 := E.n1
  have hc1 := E.c1
  have HF := hide F
  refine seq_cut fun J K hJ hK => ?_
  clear F
  go_wp2_with fail
  go_loopw [26] (fun iv wr => ∃ i : Nat, i ≤ A.c ∧ iv = .int .i64 i ∧ wr = wx) (fun iv _ => A.c - (intOf iv).toNat)
  case atStart => exact ⟨0, Nat.zero_le _, rfl, rfl⟩
  case round =>
    obtain ⟨i, hi, rfl, rfl⟩ := hrel
    by_cases hlt : i < A.c
    · obtain ⟨b, o, e1, hbl, hcs⟩ : ∃ b o, A.a1 = some ⟨b, o, none⟩ ∧ b < wr.heap.size ∧ ∀ i, i < A.c → wr.cell? ⟨b, o + i, none⟩ = some (.int .i64 (A.c0 i)) := by
        rcases E.cur with h | h
        · omega
        · exact h
      have ci := hcs i hlt
      have h8 := HF.out.cp.h8
      have cc := HF.out.cp.curs i hlt
      simp only [ids] at h8 cc
      obtain ⟨cz0, cz1⟩ := E.cz i hlt
      have HE := hide E
      clear hcs E
      rw [e1]
      by_cases hin : 0 ≤ A.c0 i ∧ A.c0 i < I.n
      · obtain ⟨a, ha⟩ : ∃ a : Nat, A.c0 i = a := ⟨(A.c0 i).toNat, by omega⟩
        have hal : a < I.n := by omega
        have hown := HF.out.rows.own 6 _ rfl
        simp only [Inp.nidL_len] at hown
        have cn : wr.cell? ⟨wq.heap.size, a, none⟩ = some (.int .i64 (I.nx a)) := by
          rw [hown.cellAt a (by omega), Inp.nidL_at _ _ _ hal, if_pos hal]
        have ec : I.cu A.c0 I.n i = I.nx a := by
          unfold Inp.cu
          rw [if_pos hin, ha]
          simp
        rw [ec] at cc
        rw [ha] at ci
        clear hown ec
        have hgx : ((I.nx a : Int) == (I.nx a : Int)) = true := by simp
        go_wp2_with fail
        case roundEnd => exact ⟨⟨i + 1, by omega, by simp, trivial⟩, by simp [intOf]; omega⟩
      · have ec : I.cu A.c0 I.n i = A.c0 i := by
          unfold Inp.cu
          rw [if_neg hin]
        rw [ec] at cc
        by_cases h0 : 0 ≤ A.c0 i
        · have h1 : ¬ A.c0 i < I.n := fun h => hin ⟨h0, h⟩
          clear hin
          go_wp2_with fail
          case roundEnd => exact ⟨⟨i + 1, by omega, by simp, trivial⟩, by simp [intOf]; omega⟩
        · clear hin
          go_wp2_with fail
          case roundEnd => exact ⟨⟨i + 1, by omega, by simp, trivial⟩, by simp [intOf]; omega⟩
    · have hie : i = A.c := by omega
      subst hie
      clear E
      go_wp2_with fail
      refine Met.intro (hJ.out _ _ ?_)
      exact tail17 I A P CU B g0 g1 q0 q1 w wq v2 v3 v4 v5  _ _ _ _ _ _ _ _ _ _ _ _ _ _ _ _ _ _ _ _ _ _ _ _ _ _ _ _ _ _ _ _ _ _ _ _ _ _ _ _ _ _ _ _ _ _ _ _ _ _ _ _ _ _ _ _ _ _ _ _ _ _ _ _ _ _ _ _ _ _ _ _ _ _ _ _ _ _ _ _ _ _ _ _ _ _ _ _ _ _ _ _ _ _ _ _ _ _ _ _ _ _ _ _ _ _ _ _ _ _ _ _ _ _ _ _ _ _ _ _ _ _ _ _ _ _ _ _ _ _ _ _ _ _ _ _ _ _ _ _ _ _ _ _ _ _ _ _ _ _ _ _ _ _ _ _ _ _ _ _ _ _ _ _ _ _ _ _ _ _ _ _ _ _ _ _ _ _ _ _ _ _ _ _ _ _ _ _ _ _ _ _ _ _ _ _ _ _ _ _ _ _ _ _ _ _ _ _ _ _ _ _ _ _ _ _ _ _ _ _ _ _ _ _ _ _ _ _ _ _ _ _ _ _ _ _ _ _ _ _ _ _ _ _ _ _ _ _ _ _ _ _ _ _ _ _ _ _ _ _ _ _ _ _ _ _ _ _ _ _ _ _ _ _ _ _ _ _ _ _ _ _ _ _ _ _ _ _ _ _ _ _ _ _ _ _ _ _ _ _ _ _ _ _ _ _ _ _ _ _ _ _ _ _ _ _ _ _ _ _ _ _ _ _ _ _ _ _ _ _ _ wr HF.out

set_option maxRecDepth 100000 in
set_option maxHeartbeats 2000000 in
theorem tail15 (I : Inp) (A : Arg) (P : Ptrs) (CU B g0 g1 q0 q1 : Nat) (w wq : World) (v2 v3 v4 v5 : Value)  (u3 u4 u5 u6 u8 u18 u19 u20 u22 u23 u24 u25 u26 u27 u28 u29 u30 u31 u32 u33 u34 u35 u36 u37 u38 u39 u40 u41 u42 u43 u44 u45 u46 u47 u48 u49 u50 u51 u52 u53 u54 u55 u56 u57 u58 u59 u60 u61 u62 u63 u64 u65 u66 u67 u68 u69 u70 u71 u72 u73 u74 u75 u76 u77 u78 u79 u80 u81 u82 u83 u84 u85 u86 u87 u88 u89 u90 u91 u92 u93 u94 u95 u96 u97 u98 u99 u100 u101 u102 u103 u104 u105 u106 u107 u108 u109 u110 u111 u112 u113 u114 u115 u116 u117 u118 u119 u120 u121 u122 u123 u124 u125 u126 u127 u128 u129 u130 u131 u132 u133 u134 u135 u136 u137 u138 u139 u140 u141 u142 u143 u144 u145 u146 u147 u148 u149 u150 u151 u152 u153 u154 u155 u156 u157 u158 u159 u160 u161 u162 u163 u164 u165 u166 u167 u168 u169 u170 u171 u172 u173 u174 u175 u176 u177 u178 u179 u180 u181 u182 u183 u184 u185 u186 u187 u188 u189 u190 u191 u192 u193 u194 u195 u196 u197 u198 u199 u200 u201 u202 u203 u204 u205 u206 u207 u208 u209 u210 u211 u212 u213 u214 u215 u216 u217 u218 u219 u220 u221 u222 u223 u224 u225 u226 u227 u228 u229 u230 u231 u232 u233 u234 u235 u236 u237 u238 u239 u240 u241 u242 u243 u244 u245 u246 u247 u248 u249 u250 u251 u252 u253 u254 u255 u256 u257 u258 u259 u260 u261 u262 u263 u264 u265 u266 u267 u268 u269 u270 u271 u272 u273 u274 u275 u276 u277 u278 u279 u280 u281 u282 u283 u284 u285 u286 u287 u288 u289 u290 u291 u292 u293 u294 u295 u296 u297 u298 u299 u300 u301 u302 u303 u304 u305 u306 u307 u308 u309 u310 u311 u312 u313 u314 u315 u316 u317 u318 u319 u320 u321 u322 u323 u324 u325 u326 u327 u328 u329 u330 u331 u332 u333 u334 u335 u336 u337 u338 u339 u340 u341 u342 u343 u344 : Value) (wx : World) (F : Fin I A P (ids A CU w.heap.size B) wq.heap.size (mr (.slice (some ⟨g0, 0, none⟩) (I.K I.n) q0) (.slice (some ⟨g1, 0, none⟩) (I.K I.n) q1) v2 v3 v4 v5 (.slice (some ⟨wq.heap.size, 0, none⟩) I.n I.n) (I.keptL I.n) (I.roomL I.n) (I.X I.n 0) (I.X I.n 1) (I.X I.n 2) (I.X I.n 3) (I.nidL I.n)) w wx)  :
    Code.wp Yba.prog ((Yba.f3.body.bind (dropS 15)).getD .skip) (bodyPost Yba.prog Yba.f3 fun e w' => e = .returned (.bool true) ∧ Below w.heap.size w w') ⟨#[.slice (some ⟨A.ab, A.ao, none⟩) I.n A.acap, .slice A.a1 A.c A.ccap, .bool I.kd, u3, u4, u5, u6, .int .i64 I.n, u8, .pointer (some ⟨w.heap.size, 0, none⟩), .slice (some ⟨w.heap.size + 2, 0, none⟩) I.n I.n, .slice (some ⟨g0, 0, none⟩) (I.K I.n) q0, .slice (some ⟨g1, 0, none⟩) (I.K I.n) q1, .slice (some ⟨wq.heap.size, 0, none⟩) I.n I.n, v2, v3, v4, v5, u18, u19, u20, .int .i64 (I.K I.n), u22, u23, u24, u25, u26, u27, u28, u29, u30, u31, u32, u33, u34, u35, u36, u37, u38, u39, u40, u41, u42, u43, u44, u45, u46, u47, u48, u49, u50, u51, u52, u53, u54, u55, u56, u57, u58, u59, u60, u61, u62, u63, u64, u65, u66, u67, u68, u69, u70, u71, u72, u73, u74, u75, u76, u77, u78, u79, u80, u81, u82, u83, u84, u85, u86, u87, u88, u89, u90, u91, u92, u93, u94, u95, u96, u97, u98, u99, u100, u101, u102, u103, u104, u105, u106, u107, u108, u109, u110, u111, u112, u113, u114, u115, u116, u117, u118, u119, u120, u121, u122, u123, u124, u125, u126, u127, u128, u129, u130, u131, u132, u133, u134, u135, u136, u137, u138, u139, u140, u141, u142, u143, u144, u145, u146, u147, u148, u149, u150, u151, u152, u153, u154, u155, u156, u157, u158, u159, u160, u161, u162, u163, u164, u165, u166, u167, u168, u169, u170, u171, u172, u173, u174, u175, u176, u177, u178, u179, u180, u181, u182, u183, u184, u185, u186, u187, u188, u189, u190, u191, u192, u193, u194, u195, u196, u197, u198, u199, u200, u201, u202, u203, u204, u205, u206, u207, u208, u209, u210, u211, u212, u213, u214, u215, u216, u217, u218, u219, u220, u221, u222, u223, u224, u225, u226, u227, u228, u229, u230, u231, u232, u233, u234, u235, u236, u237, u238, u239, u240, u241, u242, u243, u244, u245, u246, u247, u248, u249, u250, u251, u252, u253, u254, u255, u256, u257, u258, u259, u260, u261, u262, u263, u264, u265, u266, u267, u268, u269, u270, u271, u272, u273, u274, u275, u276, u277, u278, u279, u280, u281, u282, u283, u284, u285, u286, u287, u288, u289, u290, u291, u292, u293, u294, u295, u296, u297, u298, u299, u300, u301, u302, u303, u304, u305, u306, u307, u308, u309, u310, u311, u312, u313, u314, u315, u316, u317, u318, u319, u320, u321, u322, u323, u324, u325, u326, u327, u328, u329, u330, u331, u332, u333, u334, u335, u336, u337, u338, u339, u340, u341, u342, u343, u344], []⟩ wx := by
  conv => arg 2; whnf
  let Q' : Exit → Act → World → Prop := (bodyPost Yba.prog Yba.f3 fun e w' => e = .returned (.bool true) ∧ Below w.heap.size w w')
  show Code.wp Yba.prog _ Q' _ _
  have E := F.env
  have hn1 := E.n1
  have HF := hide F
  have hKn := I.K_le I.n
  refine seq_cut fun J K hJ hK => ?_
  clear F E
  go_wp2_with fail
  go_loopw [25] (fun iv wr => ∃ i : Nat, I.K I.n ≤ i ∧ i ≤ I.n ∧ iv = .int .i64 i ∧ wr = wx) (fun iv _ => I.n - (intOf iv).toNat)
  case atStart => exact ⟨I.K I.n, Nat.le_refl _, hKn, rfl, rfl⟩
  case round =>
    obtain ⟨i, hi0, hi, rfl, rfl⟩ := hrel
    by_cases hlt : i < I.n
    · have hz := HF.out.cp.zero i hi0 hlt
      simp only [ids] at hz
      have HC := hide (azero_any (w.heap.size + 2) (i * 14) wr hz)
      clear hz
      go_wp2_with fail
      refine HC.out.mono ?_
      rintro e' w' ⟨rfl, rfl⟩
      go_wp2_with fail
      go_roundw
      case rel => exact ⟨i + 1, by omega, by omega, by simp, trivial⟩
      case measure => simp [intOf]; omega
    · have hie : i = I.n := by omega
      subst hie
      go_wp2_with fail
      refine Met.intro (hJ.out _ _ ?_)
      exact tail16 I A P CU B g0 g1 q0 q1 w wq v2 v3 v4 v5  _ _ _ _ _ _ _ _ _ _ _ _ _ _ _ _ _ _ _ _ _ _ _ _ _ _ _ _ _ _ _ _ _ _ _ _ _ _ _ _ _ _ _ _ _ _ _ _ _ _ _ _ _ _ _ _ _ _ _ _ _ _ _ _ _ _ _ _ _ _ _ _ _ _ _ _ _ _ _ _ _ _ _ _ _ _ _ _ _ _ _ _ _ _ _ _ _ _ _ _ _ _ _ _ _ _ _ _ _ _ _ _ _ _ _ _ _ _ _ _ _ _ _ _ _ _ _ _ _ _ _ _ _ _ _ _ _ _ _ _ _ _ _ _ _ _ _ _ _ _ _ _ _ _ _ _ _ _ _ _ _ _ _ _ _ _ _ _ _ _ _ _ _ _ _ _ _ _ _ _ _ _ _ _ _ _ _ _ _ _ _ _ _ _ _ _ _ _ _ _ _ _ _ _ _ _ _ _ _ _ _ _ _ _ _ _ _ _ _ _ _ _ _ _ _ _ _ _ _ _ _ _ _ _ _ _ _ _ _ _ _ _ _ _ _ _ _ _ _ _ _ _ _ _ _ _ _ _ _ _ _ _ _ _ _ _ _ _ _ _ _ _ _ _ _ _ _ _ _ _ _ _ _ _ _ _ _ _ _ _ _ _ _ _ _ _ _ _ _ _ _ _ _ _ _ _ _ _ _ _ _ _ _ _ _ _ _ _ _ _ _ _ _ _ _ _ _ _ _ _ _ wr HF.out

set_option maxRecDepth 100000 in
set_option maxHeartbeats 2000000 in
theorem tail14 (I : Inp) (A : Arg) (P : Ptrs) (CU B g0 g1 q0 q1 : Nat) (w wq : World) (v2 v3 v4 v5 : Value)  (u3 u4 u5 u6 u8 u18 u19 u20 u22 u23 u24 u25 u26 u27 u28 u29 u30 u31 u32 u33 u34 u35 u36 u37 u38 u39 u40 u41 u42 u43 u44 u45 u46 u47 u48 u49 u50 u51 u52 u53 u54 u55 u56 u57 u58 u59 u60 u61 u62 u63 u64 u65 u66 u67 u68 u69 u70 u71 u72 u73 u74 u75 u76 u77 u78 u79 u80 u81 u82 u83 u84 u85 u86 u87 u88 u89 u90 u91 u92 u93 u94 u95 u96 u97 u98 u99 u100 u101 u102 u103 u104 u105 u106 u107 u108 u109 u110 u111 u112 u113 u114 u115 u116 u117 u118 u119 u120 u121 u122 u123 u124 u125 u126 u127 u128 u129 u130 u131 u132 u133 u134 u135 u136 u137 u138 u139 u140 u141 u142 u143 u144 u145 u146 u147 u148 u149 u150 u151 u152 u153 u154 u155 u156 u157 u158 u159 u160 u161 u162 u163 u164 u165 u166 u167 u168 u169 u170 u171 u172 u173 u174 u175 u176 u177 u178 u179 u180 u181 u182 u183 u184 u185 u186 u187 u188 u189 u190 u191 u192 u193 u194 u195 u196 u197 u198 u199 u200 u201 u202 u203 u204 u205 u206 u207 u208 u209 u210 u211 u212 u213 u214 u215 u216 u217 u218 u219 u220 u221 u222 u223 u224 u225 u226 u227 u228 u229 u230 u231 u232 u233 u234 u235 u236 u237 u238 u239 u240 u241 u242 u243 u244 u245 u246 u247 u248 u249 u250 u251 u252 u253 u254 u255 u256 u257 u258 u259 u260 u261 u262 u263 u264 u265 u266 u267 u268 u269 u270 u271 u272 u273 u274 u275 u276 u277 u278 u279 u280 u281 u282 u283 u284 u285 u286 u287 u288 u289 u290 u291 u292 u293 u294 u295 u296 u297 u298 u299 u300 u301 u302 u303 u304 u305 u306 u307 u308 u309 u310 u311 u312 u313 u314 u315 u316 u317 u318 u319 u320 u321 u322 u323 u324 u325 u326 u327 u328 u329 u330 u331 u332 u333 u334 u335 u336 u337 u338 u339 u340 u341 u342 u343 u344 : Value) (wx : World) (F : Fin I A P (ids A CU w.heap.size B) wq.heap.size (mr (.slice (some ⟨g0, 0, none⟩) (I.K I.n) q0) (.slice (some ⟨g1, 0, none⟩) (I.K I.n) q1) v2 v3 v4 v5 (.slice (some ⟨wq.heap.size, 0, none⟩) I.n I.n) (I.keptL I.n) (I.roomL I.n) (I.X I.n 0) (I.X I.n 1) (I.X I.n 2) (I.X I.n 3) (I.nidL I.n)) w wx)  :
    Code.wp Yba.prog ((Yba.f3.body.bind (dropS 14)).getD .skip) (bodyPost Yba.prog Yba.f3 fun e w' => e = .returned (.bool true) ∧ Below w.heap.size w w') ⟨#[.slice (some ⟨A.ab, A.ao, none⟩) I.n A.acap, .slice A.a1 A.c A.ccap, .bool I.kd, u3, u4, u5, u6, .int .i64 I.n, u8, .pointer (some ⟨w.heap.size, 0, none⟩), .slice (some ⟨w.heap.size + 2, 0, none⟩) I.n I.n, .slice (some ⟨g0, 0, none⟩) (I.K I.n) q0, .slice (some ⟨g1, 0, none⟩) (I.K I.n) q1, .slice (some ⟨wq.heap.size, 0, none⟩) I.n I.n, v2, v3, v4, v5, u18, u19, u20, .int .i64 (I.K I.n), u22, u23, u24, u25, u26, u27, u28, u29, u30, u31, u32, u33, u34, u35, u36, u37, u38, u39, u40, u41, u42, u43, u44, u45, u46, u47, u48, u49, u50, u51, u52, u53, u54, u55, u56, u57, u58, u59, u60, u61, u62, u63, u64, u65, u66, u67, u68, u69, u70, u71, u72, u73, u74, u75, u76, u77, u78, u79, u80, u81, u82, u83, u84, u85, u86, u87, u88, u89, u90, u91, u92, u93, u94, u95, u96, u97, u98, u99, u100, u101, u102, u103, u104, u105, u106, u107, u108, u109, u110, u111, u112, u113, u114, u115, u116, u117, u118, u119, u120, u121, u122, u123, u124, u125, u126, u127, u128, u129, u130, u131, u132, u133, u134, u135, u136, u137, u138, u139, u140, u141, u142, u143, u144, u145, u146, u147, u148, u149, u150, u151, u152, u153, u154, u155, u156, u157, u158, u159, u160, u161, u162, u163, u164, u165, u166, u167, u168, u169, u170, u171, u172, u173, u174, u175, u176, u177, u178, u179, u180, u181, u182, u183, u184, u185, u186, u187, u188, u189, u190, u191, u192, u193, u194, u195, u196, u197, u198, u199, u200, u201, u202, u203, u204, u205, u206, u207, u208, u209, u210, u211, u212, u213, u214, u215, u216, u217, u218, u219, u220, u221, u222, u223, u224, u225, u226, u227, u228, u229, u230, u231, u232, u233, u234, u235, u236, u237, u238, u239, u240, u241, u242, u243, u244, u245, u246, u247, u248, u249, u250, u251, u252, u253, u254, u255, u256, u257, u258, u259, u260, u261, u262, u263, u264, u265, u266, u267, u268, u269, u270, u271, u272, u273, u274, u275, u276, u277, u278, u279, u280, u281, u282, u283, u284, u285, u286, u287, u288, u289, u290, u291, u292, u293, u294, u295, u296, u297, u298, u299, u300, u301, u302, u303, u304, u305, u306, u307, u308, u309, u310, u311, u312, u313, u314, u315, u316, u317, u318, u319, u320, u321, u322, u323, u324, u325, u326, u327, u328, u329, u330, u331, u332, u333, u334, u335, u336, u337, u338, u339, u340, u341, u342, u343, u344], []⟩ wx := by
  conv => arg 2; whnf
  let Q' : Exit → Act → World → Prop := (bodyPost Yba.prog Yba.f3 fun e w' => e = .returned (.bool true) ∧ Below w.heap.size w w')
  show Code.wp Yba.prog _ Q' _ _
  have E := F.env
  have hn1 := E.n1
  have HF := hide F
  have hKn := I.K_le I.n
  refine seq_cut fun J K hJ hK => ?_
  clear F E
  go_wp2_with fail
  go_loopw [22] (fun iv wr => ∃ i : Nat, i ≤ I.K I.n ∧ iv = .int .i64 i ∧ Fin I A P (ids A CU w.heap.size B) wq.heap.size (mr (.slice (some ⟨g0, 0, none⟩) (I.K I.n) q0) (.slice (some ⟨g1, 0, none⟩) (I.K I.n) q1) v2 v3 v4 v5 (.slice (some ⟨wq.heap.size, 0, none⟩) I.n I.n) (I.keptL I.n) (I.roomL I.n) (I.X I.n 0) (I.X I.n 1) (I.X I.n 2) (I.X I.n 3) (I.nidL I.n)) w wr) (fun iv _ => I.K I.n - (intOf iv).toNat)
  case atStart => exact ⟨0, Nat.zero_le _, rfl, HF.out⟩
  case round =>
    obtain ⟨i, hi, rfl, F⟩ := hrel
    by_cases hlt : i < I.K I.n
    · have o0 := F.rows.own 0 _ rfl
      have o1 := F.rows.own 1 _ rfl
      simp only [Inp.keptL_len, Inp.roomL_len] at o0 o1
      have ck : wr.cell? ⟨g0, i, none⟩ = some (.int .i64 (I.kp I.n i)) := by
        rw [o0.cellAt i (by omega), Inp.keptL_at _ _ _ hlt]
      have cr : wr.cell? ⟨g1, i, none⟩ = some (.int .i64 (I.rm I.n i)) := by
        rw [o1.cellAt i (by omega), Inp.roomL_at _ _ _ hlt]
      have hp := I.kp_lt I.n i hlt
      have z0 := F.cp.inst i hlt
      have h6 := F.cp.h6
      have h7 := F.cp.h7
      have ca := F.cp.atms i hlt
      have hI := fun j hj => F.env.ins (I.kp I.n i) hp j hj
      obtain ⟨st0, st1⟩ := F.env.st0 _ hp
      obtain ⟨en0, en1⟩ := F.env.en0 _ hp
      simp only [ids] at z0 h6 h7 ca
      have es : ((I.s (I.kp I.n i) : Nat) : Int) = I.st (I.kp I.n i) % 3 := by unfold Inp.s; omega
      have ee : ((I.e (I.kp I.n i) : Nat) : Int) = I.en (I.kp I.n i) % 3 := by unfold Inp.e; omega
      have hF1 := hide F
      obtain ⟨p, hpe⟩ : ∃ p, p = I.kp I.n i := ⟨_, rfl⟩
      rw [← hpe] at ck hp z0 ca hI st0 st1 en0 en1 es ee
      have HPE := hide hpe
      clear hpe
      have k0 := hI 0 (by decide)
      have k1 := hI 1 (by decide)
      have k2 := hI 2 (by decide)
      have k3 := hI 3 (by decide)
      have k4 := hI 4 (by decide)
      have k5 := hI 5 (by decide)
      have k6 := hI 6 (by decide)
      have k7 := hI 7 (by decide)
      have k8 := hI 8 (by decide)
      simp only [Inp.ib, Nat.add_zero] at k0 k1 k2 k3 k4 k5 k6 k7 k8

      have m0 := z0 0 (by decide)
      have m1 := z0 1 (by decide)
      have m2 := z0 2 (by decide)
      have m3 := z0 3 (by decide)
      have m5 := z0 5 (by decide)
      have m6 := z0 6 (by decide)
      have m9 := z0 9 (by decide)
      have m11 := z0 11 (by decide)
      simp only [Inp.ic, Nat.add_zero] at m0 m1 m2 m3 m5 m6 m9 m11
      have sz0 : w.heap.size < wr.heap.size := lt_of_cell h6
      have sz1 : w.heap.size + 1 < wr.heap.size := lt_of_cell ca
      have sz2 : w.heap.size + 2 < wr.heap.size := lt_of_cell m0
      have sz3 : g1 < wr.heap.size := lt_of_cell cr
      clear o0 o1 z0 hI F HF
      go_upto_region 41 with fail
      go_region
      go_wp2_with fail
      go_region
      all_goals go_wp2_with fail
      all_goals go_roundw
      case rel => exact ⟨i + 1, by omega, by simp, hF1.out.next (((Below.refl _ _).alloc (Nat.le_refl _) _).drew.drew)⟩
      case measure => simp [intOf]; omega
    · have hie : i = I.K I.n := by omega
      subst hie
      have HF2 := hide F
      clear F
      go_wp2_with fail
      refine Met.intro (hJ.out _ _ ?_)
      exact tail15 I A P CU B g0 g1 q0 q1 w wq v2 v3 v4 v5  _ _ _ _ _ _ _ _ _ _ _ _ _ _ _ _ _ _ _ _ _ _ _ _ _ _ _ _ _ _ _ _ _ _ _ _ _ _ _ _ _ _ _ _ _ _ _ _ _ _ _ _ _ _ _ _ _ _ _ _ _ _ _ _ _ _ _ _ _ _ _ _ _ _ _ _ _ _ _ _ _ _ _ _ _ _ _ _ _ _ _ _ _ _ _ _ _ _ _ _ _ _ _ _ _ _ _ _ _ _ _ _ _ _ _ _ _ _ _ _ _ _ _ _ _ _ _ _ _ _ _ _ _ _ _ _ _ _ _ _ _ _ _ _ _ _ _ _ _ _ _ _ _ _ _ _ _ _ _ _ _ _ _ _ _ _ _ _ _ _ _ _ _ _ _ _ _ _ _ _ _ _ _ _ _ _ _ _ _ _ _ _ _ _ _ _ _ _ _ _ _ _ _ _ _ _ _ _ _ _ _ _ _ _ _ _ _ _ _ _ _ _ _ _ _ _ _ _ _ _ _ _ _ _ _ _ _ _ _ _ _ _ _ _ _ _ _ _ _ _ _ _ _ _ _ _ _ _ _ _ _ _ _ _ _ _ _ _ _ _ _ _ _ _ _ _ _ _ _ _ _ _ _ _ _ _ _ _ _ _ _ _ _ _ _ _ _ _ _ _ _ _ _ _ _ _ _ _ _ _ _ _ _ _ _ _ _ _ _ _ _ _ _ _ _ _ _ _ _ _ _ wr HF2.out

set_option maxRecDepth 100000 in
set_option maxHeartbeats 2000000 in
theorem tail13 (I : Inp) (A : Arg) (P : Ptrs) (CU B g0 g1 q0 q1 : Nat) (w wq : World) (v2 v3 v4 v5 : Value)  (u3 u4 u5 u6 u8 u18 u19 u20 u22 u23 u24 u25 u26 u27 u28 u29 u30 u31 u32 u33 u34 u35 u36 u37 u38 u39 u40 u41 u42 u43 u44 u45 u46 u47 u48 u49 u50 u51 u52 u53 u54 u55 u56 u57 u58 u59 u60 u61 u62 u63 u64 u65 u66 u67 u68 u69 u70 u71 u72 u73 u74 u75 u76 u77 u78 u79 u80 u81 u82 u83 u84 u85 u86 u87 u88 u89 u90 u91 u92 u93 u94 u95 u96 u97 u98 u99 u100 u101 u102 u103 u104 u105 u106 u107 u108 u109 u110 u111 u112 u113 u114 u115 u116 u117 u118 u119 u120 u121 u122 u123 u124 u125 u126 u127 u128 u129 u130 u131 u132 u133 u134 u135 u136 u137 u138 u139 u140 u141 u142 u143 u144 u145 u146 u147 u148 u149 u150 u151 u152 u153 u154 u155 u156 u157 u158 u159 u160 u161 u162 u163 u164 u165 u166 u167 u168 u169 u170 u171 u172 u173 u174 u175 u176 u177 u178 u179 u180 u181 u182 u183 u184 u185 u186 u187 u188 u189 u190 u191 u192 u193 u194 u195 u196 u197 u198 u199 u200 u201 u202 u203 u204 u205 u206 u207 u208 u209 u210 u211 u212 u213 u214 u215 u216 u217 u218 u219 u220 u221 u222 u223 u224 u225 u226 u227 u228 u229 u230 u231 u232 u233 u234 u235 u236 u237 u238 u239 u240 u241 u242 u243 u244 u245 u246 u247 u248 u249 u250 u251 u252 u253 u254 u255 u256 u257 u258 u259 u260 u261 u262 u263 u264 u265 u266 u267 u268 u269 u270 u271 u272 u273 u274 u275 u276 u277 u278 u279 u280 u281 u282 u283 u284 u285 u286 u287 u288 u289 u290 u291 u292 u293 u294 u295 u296 u297 u298 u299 u300 u301 u302 u303 u304 u305 u306 u307 u308 u309 u310 u311 u312 u313 u314 u315 u316 u317 u318 u319 u320 u321 u322 u323 u324 u325 u326 u327 u328 u329 u330 u331 u332 u333 u334 u335 u336 u337 u338 u339 u340 u341 u342 u343 u344 : Value) (wx : World) (F : Fin I A P (ids A CU w.heap.size B) wq.heap.size (mr (.slice (some ⟨g0, 0, none⟩) (I.K I.n) q0) (.slice (some ⟨g1, 0, none⟩) (I.K I.n) q1) v2 v3 v4 v5 (.slice (some ⟨wq.heap.size, 0, none⟩) I.n I.n) (I.keptL I.n) (I.roomL I.n) (I.X I.n 0) (I.X I.n 1) (I.X I.n 2) (I.X I.n 3) (I.nidL I.n)) w wx)  :
    Code.wp Yba.prog ((Yba.f3.body.bind (dropS 13)).getD .skip) (bodyPost Yba.prog Yba.f3 fun e w' => e = .returned (.bool true) ∧ Below w.heap.size w w') ⟨#[.slice (some ⟨A.ab, A.ao, none⟩) I.n A.acap, .slice A.a1 A.c A.ccap, .bool I.kd, u3, u4, u5, u6, .int .i64 I.n, u8, .pointer (some ⟨w.heap.size, 0, none⟩), .slice (some ⟨w.heap.size + 2, 0, none⟩) I.n I.n, .slice (some ⟨g0, 0, none⟩) (I.K I.n) q0, .slice (some ⟨g1, 0, none⟩) (I.K I.n) q1, .slice (some ⟨wq.heap.size, 0, none⟩) I.n I.n, v2, v3, v4, v5, u18, u19, u20, .int .i64 (I.K I.n), u22, u23, u24, u25, u26, u27, u28, u29, u30, u31, u32, u33, u34, u35, u36, u37, u38, u39, u40, u41, u42, u43, u44, u45, u46, u47, u48, u49, u50, u51, u52, u53, u54, u55, u56, u57, u58, u59, u60, u61, u62, u63, u64, u65, u66, u67, u68, u69, u70, u71, u72, u73, u74, u75, u76, u77, u78, u79, u80, u81, u82, u83, u84, u85, u86, u87, u88, u89, u90, u91, u92, u93, u94, u95, u96, u97, u98, u99, u100, u101, u102, u103, u104, u105, u106, u107, u108, u109, u110, u111, u112, u113, u114, u115, u116, u117, u118, u119, u120, u121, u122, u123, u124, u125, u126, u127, u128, u129, u130, u131, u132, u133, u134, u135, u136, u137, u138, u139, u140, u141, u142, u143, u144, u145, u146, u147, u148, u149, u150, u151, u152, u153, u154, u155, u156, u157, u158, u159, u160, u161, u162, u163, u164, u165, u166, u167, u168, u169, u170, u171, u172, u173, u174, u175, u176, u177, u178, u179, u180, u181, u182, u183, u184, u185, u186, u187, u188, u189, u190, u191, u192, u193, u194, u195, u196, u197, u198, u199, u200, u201, u202, u203, u204, u205, u206, u207, u208, u209, u210, u211, u212, u213, u214, u215, u216, u217, u218, u219, u220, u221, u222, u223, u224, u225, u226, u227, u228, u229, u230, u231, u232, u233, u234, u235, u236, u237, u238, u239, u240, u241, u242, u243, u244, u245, u246, u247, u248, u249, u250, u251, u252, u253, u254, u255, u256, u257, u258, u259, u260, u261, u262, u263, u264, u265, u266, u267, u268, u269, u270, u271, u272, u273, u274, u275, u276, u277, u278, u279, u280, u281, u282, u283, u284, u285, u286, u287, u288, u289, u290, u291, u292, u293, u294, u295, u296, u297, u298, u299, u300, u301, u302, u303, u304, u305, u306, u307, u308, u309, u310, u311, u312, u313, u314, u315, u316, u317, u318, u319, u320, u321, u322, u323, u324, u325, u326, u327, u328, u329, u330, u331, u332, u333, u334, u335, u336, u337, u338, u339, u340, u341, u342, u343, u344], []⟩ wx := by
  conv => arg 2; whnf
  let Q' : Exit → Act → World → Prop := (bodyPost Yba.prog Yba.f3 fun e w' => e = .returned (.bool true) ∧ Below w.heap.size w w')
  show Code.wp Yba.prog _ Q' _ _
  have E := F.env
  have hn1 := E.n1
  have h6 := F.cp.h6
  have h7 := F.cp.h7
  simp only [ids] at h6 h7
  have hKn := I.K_le I.n
  have HF := hide F
  refine seq_cut fun J K hJ hK => ?_
  clear F E
  go_wp2_with fail
  refine Met.intro (hJ.out _ _ ?_)
  exact tail14 I A P CU B g0 g1 q0 q1 w wq v2 v3 v4 v5  _ _ _ _ _ _ _ _ _ _ _ _ _ _ _ _ _ _ _ _ _ _ _ _ _ _ _ _ _ _ _ _ _ _ _ _ _ _ _ _ _ _ _ _ _ _ _ _ _ _ _ _ _ _ _ _ _ _ _ _ _ _ _ _ _ _ _ _ _ _ _ _ _ _ _ _ _ _ _ _ _ _ _ _ _ _ _ _ _ _ _ _ _ _ _ _ _ _ _ _ _ _ _ _ _ _ _ _ _ _ _ _ _ _ _ _ _ _ _ _ _ _ _ _ _ _ _ _ _ _ _ _ _ _ _ _ _ _ _ _ _ _ _ _ _ _ _ _ _ _ _ _ _ _ _ _ _ _ _ _ _ _ _ _ _ _ _ _ _ _ _ _ _ _ _ _ _ _ _ _ _ _ _ _ _ _ _ _ _ _ _ _ _ _ _ _ _ _ _ _ _ _ _ _ _ _ _ _ _ _ _ _ _ _ _ _ _ _ _ _ _ _ _ _ _ _ _ _ _ _ _ _ _ _ _ _ _ _ _ _ _ _ _ _ _ _ _ _ _ _ _ _ _ _ _ _ _ _ _ _ _ _ _ _ _ _ _ _ _ _ _ _ _ _ _ _ _ _ _ _ _ _ _ _ _ _ _ _ _ _ _ _ _ _ _ _ _ _ _ _ _ _ _ _ _ _ _ _ _ _ _ _ _ _ _ _ _ _ _ _ _ _ _ _ _ _ _ _ _ _ _ wx HF.out

set_option maxRecDepth 100000 in
set_option maxHeartbeats 2000000 in
theorem tail12 (I : Inp) (A : Arg) (P : Ptrs) (CU B g0 g1 q0 q1 : Nat) (w wq : World) (v2 v3 v4 v5 : Value)  (u3 u4 u5 u6 u8 u18 u19 u20 u21 u22 u23 u24 u25 u26 u27 u28 u29 u30 u31 u32 u33 u34 u35 u36 u37 u38 u39 u40 u41 u42 u43 u44 u45 u46 u47 u48 u49 u50 u51 u52 u53 u54 u55 u56 u57 u58 u59 u60 u61 u62 u63 u64 u65 u66 u67 u68 u69 u70 u71 u72 u73 u74 u75 u76 u77 u78 u79 u80 u81 u82 u83 u84 u85 u86 u87 u88 u89 u90 u91 u92 u93 u94 u95 u96 u97 u98 u99 u100 u101 u102 u103 u104 u105 u106 u107 u108 u109 u110 u111 u112 u113 u114 u115 u116 u117 u118 u119 u120 u121 u122 u123 u124 u125 u126 u127 u128 u129 u130 u131 u132 u133 u134 u135 u136 u137 u138 u139 u140 u141 u142 u143 u144 u145 u146 u147 u148 u149 u150 u151 u152 u153 u154 u155 u156 u157 u158 u159 u160 u161 u162 u163 u164 u165 u166 u167 u168 u169 u170 u171 u172 u173 u174 u175 u176 u177 u178 u179 u180 u181 u182 u183 u184 u185 u186 u187 u188 u189 u190 u191 u192 u193 u194 u195 u196 u197 u198 u199 u200 u201 u202 u203 u204 u205 u206 u207 u208 u209 u210 u211 u212 u213 u214 u215 u216 u217 u218 u219 u220 u221 u222 u223 u224 u225 u226 u227 u228 u229 u230 u231 u232 u233 u234 u235 u236 u237 u238 u239 u240 u241 u242 u243 u244 u245 u246 u247 u248 u249 u250 u251 u252 u253 u254 u255 u256 u257 u258 u259 u260 u261 u262 u263 u264 u265 u266 u267 u268 u269 u270 u271 u272 u273 u274 u275 u276 u277 u278 u279 u280 u281 u282 u283 u284 u285 u286 u287 u288 u289 u290 u291 u292 u293 u294 u295 u296 u297 u298 u299 u300 u301 u302 u303 u304 u305 u306 u307 u308 u309 u310 u311 u312 u313 u314 u315 u316 u317 u318 u319 u320 u321 u322 u323 u324 u325 u326 u327 u328 u329 u330 u331 u332 u333 u334 u335 u336 u337 u338 u339 u340 u341 u342 u343 u344 : Value) (wx : World) (F : Fin I A P (ids A CU w.heap.size B) wq.heap.size (mr (.slice (some ⟨g0, 0, none⟩) (I.K I.n) q0) (.slice (some ⟨g1, 0, none⟩) (I.K I.n) q1) v2 v3 v4 v5 (.slice (some ⟨wq.heap.size, 0, none⟩) I.n I.n) (I.keptL I.n) (I.roomL I.n) (I.X I.n 0) (I.X I.n 1) (I.X I.n 2) (I.X I.n 3) (I.nidL I.n)) w wx)  :
    Code.wp Yba.prog ((Yba.f3.body.bind (dropS 12)).getD .skip) (bodyPost Yba.prog Yba.f3 fun e w' => e = .returned (.bool true) ∧ Below w.heap.size w w') ⟨#[.slice (some ⟨A.ab, A.ao, none⟩) I.n A.acap, .slice A.a1 A.c A.ccap, .bool I.kd, u3, u4, u5, u6, .int .i64 I.n, u8, .pointer (some ⟨w.heap.size, 0, none⟩), .slice (some ⟨w.heap.size + 2, 0, none⟩) I.n I.n, .slice (some ⟨g0, 0, none⟩) (I.K I.n) q0, .slice (some ⟨g1, 0, none⟩) (I.K I.n) q1, .slice (some ⟨wq.heap.size, 0, none⟩) I.n I.n, v2, v3, v4, v5, u18, u19, u20, u21, u22, u23, u24, u25, u26, u27, u28, u29, u30, u31, u32, u33, u34, u35, u36, u37, u38, u39, u40, u41, u42, u43, u44, u45, u46, u47, u48, u49, u50, u51, u52, u53, u54, u55, u56, u57, u58, u59, u60, u61, u62, u63, u64, u65, u66, u67, u68, u69, u70, u71, u72, u73, u74, u75, u76, u77, u78, u79, u80, u81, u82, u83, u84, u85, u86, u87, u88, u89, u90, u91, u92, u93, u94, u95, u96, u97, u98, u99, u100, u101, u102, u103, u104, u105, u106, u107, u108, u109, u110, u111, u112, u113, u114, u115, u116, u117, u118, u119, u120, u121, u122, u123, u124, u125, u126, u127, u128, u129, u130, u131, u132, u133, u134, u135, u136, u137, u138, u139, u140, u141, u142, u143, u144, u145, u146, u147, u148, u149, u150, u151, u152, u153, u154, u155, u156, u157, u158, u159, u160, u161, u162, u163, u164, u165, u166, u167, u168, u169, u170, u171, u172, u173, u174, u175, u176, u177, u178, u179, u180, u181, u182, u183, u184, u185, u186, u187, u188, u189, u190, u191, u192, u193, u194, u195, u196, u197, u198, u199, u200, u201, u202, u203, u204, u205, u206, u207, u208, u209, u210, u211, u212, u213, u214, u215, u216, u217, u218, u219, u220, u221, u222, u223, u224, u225, u226, u227, u228, u229, u230, u231, u232, u233, u234, u235, u236, u237, u238, u239, u240, u241, u242, u243, u244, u245, u246, u247, u248, u249, u250, u251, u252, u253, u254, u255, u256, u257, u258, u259, u260, u261, u262, u263, u264, u265, u266, u267, u268, u269, u270, u271, u272, u273, u274, u275, u276, u277, u278, u279, u280, u281, u282, u283, u284, u285, u286, u287, u288, u289, u290, u291, u292, u293, u294, u295, u296, u297, u298, u299, u300, u301, u302, u303, u304, u305, u306, u307, u308, u309, u310, u311, u312, u313, u314, u315, u316, u317, u318, u319, u320, u321, u322, u323, u324, u325, u326, u327, u328, u329, u330, u331, u332, u333, u334, u335, u336, u337, u338, u339, u340, u341, u342, u343, u344], []⟩ wx := by
  conv => arg 2; whnf
  let Q' : Exit → Act → World → Prop := (bodyPost Yba.prog Yba.f3 fun e w' => e = .returned (.bool true) ∧ Below w.heap.size w w')
  show Code.wp Yba.prog _ Q' _ _
  have HF := hide F
  refine seq_cut fun J K hJ hK => ?_
  clear F
  go_wp2_with fail
  refine Met.intro (hJ.out _ _ ?_)
  exact tail13 I A P CU B g0 g1 q0 q1 w wq v2 v3 v4 v5  _ _ _ _ _ _ _ _ _ _ _ _ _ _ _ _ _ _ _ _ _ _ _ _ _ _ _ _ _ _ _ _ _ _ _ _ _ _ _ _ _ _ _ _ _ _ _ _ _ _ _ _ _ _ _ _ _ _ _ _ _ _ _ _ _ _ _ _ _ _ _ _ _ _ _ _ _ _ _ _ _ _ _ _ _ _ _ _ _ _ _ _ _ _ _ _ _ _ _ _ _ _ _ _ _ _ _ _ _ _ _ _ _ _ _ _ _ _ _ _ _ _ _ _ _ _ _ _ _ _ _ _ _ _ _ _ _ _ _ _ _ _ _ _ _ _ _ _ _ _ _ _ _ _ _ _ _ _ _ _ _ _ _ _ _ _ _ _ _ _ _ _ _ _ _ _ _ _ _ _ _ _ _ _ _ _ _ _ _ _ _ _ _ _ _ _ _ _ _ _ _ _ _ _ _ _ _ _ _ _ _ _ _ _ _ _ _ _ _ _ _ _ _ _ _ _ _ _ _ _ _ _ _ _ _ _ _ _ _ _ _ _ _ _ _ _ _ _ _ _ _ _ _ _ _ _ _ _ _ _ _ _ _ _ _ _ _ _ _ _ _ _ _ _ _ _ _ _ _ _ _ _ _ _ _ _ _ _ _ _ _ _ _ _ _ _ _ _ _ _ _ _ _ _ _ _ _ _ _ _ _ _ _ _ _ _ _ _ _ _ _ _ _ _ _ _ _ _ _ _ _ wx HF.out

set_option maxRecDepth 100000 in
set_option maxHeartbeats 2000000 in
theorem tail11 (I : Inp) (A : Arg) (P : Ptrs) (CU : Nat) (w wq : World) (v0 v1 v2 v3 v4 v5 : Value) (u3 u4 u5 u6 u8 u18 u19 u20 u21 u22 u23 u24 u25 u26 u27 u28 u29 u30 u31 u32 u33 u34 u35 u36 u37 u38 u39 u40 u41 u42 u43 u44 u45 u46 u47 u48 u49 u50 u51 u52 u53 u54 u55 u56 u57 u58 u59 u60 u61 u62 u63 u64 u65 u66 u67 u68 u69 u70 u71 u72 u73 u74 u75 u76 u77 u78 u79 u80 u81 u82 u83 u84 u85 u86 u87 u88 u89 u90 u91 u92 u93 u94 u95 u96 u97 u98 u99 u100 u101 u102 u103 u104 u105 u106 u107 u108 u109 u110 u111 u112 u113 u114 u115 u116 u117 u118 u119 u120 u121 u122 u123 u124 u125 u126 u127 u128 u129 u130 u131 u132 u133 u134 u135 u136 u137 u138 u139 u140 u141 u142 u143 u144 u145 u146 u147 u148 u149 u150 u151 u152 u153 u154 u155 u156 u157 u158 u159 u160 u161 u162 u163 u164 u165 u166 u167 u168 u169 u170 u171 u172 u173 u174 u175 u176 u177 u178 u179 u180 u181 u182 u183 u184 u185 u186 u187 u188 u189 u190 u191 u192 u193 u194 u195 u196 u197 u198 u199 u200 u201 u202 u203 u204 u205 u206 u207 u208 u209 u210 u211 u212 u213 u214 u215 u216 u217 u218 u219 u220 u221 u222 u223 u224 u225 u226 u227 u228 u229 u230 u231 u232 u233 u234 u235 u236 u237 u238 u239 u240 u241 u242 u243 u244 u245 u246 u247 u248 u249 u250 u251 u252 u253 u254 u255 u256 u257 u258 u259 u260 u261 u262 u263 u264 u265 u266 u267 u268 u269 u270 u271 u272 u273 u274 u275 u276 u277 u278 u279 u280 u281 u282 u283 u284 u285 u286 u287 u288 u289 u290 u291 u292 u293 u294 u295 u296 u297 u298 u299 u300 u301 u302 u303 u304 u305 u306 u307 u308 u309 u310 u311 u312 u313 u314 u315 u316 u317 u318 u319 u320 u321 u322 u323 u324 u325 u326 u327 u328 u329 u330 u331 u332 u333 u334 u335 u336 u337 u338 u339 u340 u341 u342 u343 u344 : Value) (wx : World) (E : Env I A w) (hq : Pre I A P CU w wq) (hr : Rows wx wq.heap.size (mr v0 v1 v2 v3 v4 v5 (.slice (some ⟨wq.heap.size, 0, none⟩) I.n I.n) (I.keptL I.n) (I.roomL I.n) (I.X I.n 0) (I.X I.n 1) (I.X I.n 2) (I.X I.n 3) (I.nidL I.n))) (hb : Below wq.heap.size wq wx) :
    Code.wp Yba.prog ((Yba.f3.body.bind (dropS 11)).getD .skip) (bodyPost Yba.prog Yba.f3 fun e w' => e = .returned (.bool true) ∧ Below w.heap.size w w') ⟨#[.slice (some ⟨A.ab, A.ao, none⟩) I.n A.acap, .slice A.a1 A.c A.ccap, .bool I.kd, u3, u4, u5, u6, .int .i64 I.n, u8, .pointer (some ⟨w.heap.size, 0, none⟩), .slice (some ⟨w.heap.size + 2, 0, none⟩) I.n I.n, v0, v1, .slice (some ⟨wq.heap.size, 0, none⟩) I.n I.n, v2, v3, v4, v5, u18, u19, u20, u21, u22, u23, u24, u25, u26, u27, u28, u29, u30, u31, u32, u33, u34, u35, u36, u37, u38, u39, u40, u41, u42, u43, u44, u45, u46, u47, u48, u49, u50, u51, u52, u53, u54, u55, u56, u57, u58, u59, u60, u61, u62, u63, u64, u65, u66, u67, u68, u69, u70, u71, u72, u73, u74, u75, u76, u77, u78, u79, u80, u81, u82, u83, u84, u85, u86, u87, u88, u89, u90, u91, u92, u93, u94, u95, u96, u97, u98, u99, u100, u101, u102, u103, u104, u105, u106, u107, u108, u109, u110, u111, u112, u113, u114, u115, u116, u117, u118, u119, u120, u121, u122, u123, u124, u125, u126, u127, u128, u129, u130, u131, u132, u133, u134, u135, u136, u137, u138, u139, u140, u141, u142, u143, u144, u145, u146, u147, u148, u149, u150, u151, u152, u153, u154, u155, u156, u157, u158, u159, u160, u161, u162, u163, u164, u165, u166, u167, u168, u169, u170, u171, u172, u173, u174, u175, u176, u177, u178, u179, u180, u181, u182, u183, u184, u185, u186, u187, u188, u189, u190, u191, u192, u193, u194, u195, u196, u197, u198, u199, u200, u201, u202, u203, u204, u205, u206, u207, u208, u209, u210, u211, u212, u213, u214, u215, u216, u217, u218, u219, u220, u221, u222, u223, u224, u225, u226, u227, u228, u229, u230, u231, u232, u233, u234, u235, u236, u237, u238, u239, u240, u241, u242, u243, u244, u245, u246, u247, u248, u249, u250, u251, u252, u253, u254, u255, u256, u257, u258, u259, u260, u261, u262, u263, u264, u265, u266, u267, u268, u269, u270, u271, u272, u273, u274, u275, u276, u277, u278, u279, u280, u281, u282, u283, u284, u285, u286, u287, u288, u289, u290, u291, u292, u293, u294, u295, u296, u297, u298, u299, u300, u301, u302, u303, u304, u305, u306, u307, u308, u309, u310, u311, u312, u313, u314, u315, u316, u317, u318, u319, u320, u321, u322, u323, u324, u325, u326, u327, u328, u329, u330, u331, u332, u333, u334, u335, u336, u337, u338, u339, u340, u341, u342, u343, u344], []⟩ wx := by
  conv => arg 2; whnf
  let Q' : Exit → Act → World → Prop := (bodyPost Yba.prog Yba.f3 fun e w' => e = .returned (.bool true) ∧ Below w.heap.size w w')
  show Code.wp Yba.prog _ Q' _ _
  have hKp := I.K_pos I.n E.n0
  obtain ⟨g0, q0, e0⟩ : ∃ g0 c0, v0 = .slice (some ⟨g0, 0, none⟩) (I.K I.n) c0 := by
    rcases own_slice (hr.own 0 _ rfl) with ⟨c, e, h⟩ | ⟨g, cap, e⟩
    · simp only [Inp.keptL_len] at h; omega
    · simp only [Inp.keptL_len] at e; exact ⟨g, cap, e⟩
  obtain ⟨g1, q1, e1⟩ : ∃ g0 c0, v1 = .slice (some ⟨g0, 0, none⟩) (I.K I.n) c0 := by
    rcases own_slice (hr.own 1 _ rfl) with ⟨c, e, h⟩ | ⟨g, cap, e⟩
    · simp only [Inp.roomL_len] at h; omega
    · simp only [Inp.roomL_len] at e; exact ⟨g, cap, e⟩
  subst e0 e1
  have HC := hide (compact_any I P (ids A CU w.heap.size wx.heap.size) A.c0 wx (hq.ok hb.size) E.n0 E.n1 E.c1 E.sm1 rfl (hq.tl hb))
  have HR := hide (show _ ∧ _ ∧ _ ∧ _ from ⟨E, hq, hb, hr⟩)
  clear hr hb E hq
  refine seq_cut fun J K hJ hK => ?_
  go_wp2_with fail
  refine HC.out.mono ?_
  rintro e' w' ⟨rfl, c1, c2⟩
  have HF := hide (Fin.mk' HR.out.1 HR.out.2.1 HR.out.2.2.1 HR.out.2.2.2 c1 c2)
  clear c1 c2 HC
  go_wp2_with fail
  refine Met.intro (hJ.out _ _ ?_)
  exact tail12 I A P CU wx.heap.size g0 g1 q0 q1 w wq v2 v3 v4 v5 _ _ _ _ _ _ _ _ _ _ _ _ _ _ _ _ _ _ _ _ _ _ _ _ _ _ _ _ _ _ _ _ _ _ _ _ _ _ _ _ _ _ _ _ _ _ _ _ _ _ _ _ _ _ _ _ _ _ _ _ _ _ _ _ _ _ _ _ _ _ _ _ _ _ _ _ _ _ _ _ _ _ _ _ _ _ _ _ _ _ _ _ _ _ _ _ _ _ _ _ _ _ _ _ _ _ _ _ _ _ _ _ _ _ _ _ _ _ _ _ _ _ _ _ _ _ _ _ _ _ _ _ _ _ _ _ _ _ _ _ _ _ _ _ _ _ _ _ _ _ _ _ _ _ _ _ _ _ _ _ _ _ _ _ _ _ _ _ _ _ _ _ _ _ _ _ _ _ _ _ _ _ _ _ _ _ _ _ _ _ _ _ _ _ _ _ _ _ _ _ _ _ _ _ _ _ _ _ _ _ _ _ _ _ _ _ _ _ _ _ _ _ _ _ _ _ _ _ _ _ _ _ _ _ _ _ _ _ _ _ _ _ _ _ _ _ _ _ _ _ _ _ _ _ _ _ _ _ _ _ _ _ _ _ _ _ _ _ _ _ _ _ _ _ _ _ _ _ _ _ _ _ _ _ _ _ _ _ _ _ _ _ _ _ _ _ _ _ _ _ _ _ _ _ _ _ _ _ _ _ _ _ _ _ _ _ _ _ _ _ _ _ _ _ _ _ _ _ _ _ _ _ w' HF.out

end Go.Proofs.Ybulkbfpk
