import Derived.Test.YbulkbfpkJr
namespace Go.Proofs.Ybulkbfpk
open Go.RowKit Go.Shelf
set_option maxRecDepth 100000 in
set_option maxHeartbeats 2000000 in
theorem tailC23 (J : JIn) (A : JAd) (w : World) (w9 wt : World) (G : Nat) (jb bb nb : Nat → Nat) (pcv pv : Value) (ap : Nat → Value) (u1 u2 u3 u4 u5 u6 u11 u12 u13 u14 u15 u16 u17 u18 u19 u22 u28 u29 u30 u31 u32 u33 u34 u35 u36 u37 u38 u39 u40 u41 u42 u43 u44 u45 u46 u47 u48 u49 u50 u51 u52 u53 u54 u55 u56 u57 u58 u59 u60 u61 u62 u63 u64 u65 u66 u67 u68 u69 u70 u71 u72 u73 u74 u75 u76 u77 u78 u79 u80 u81 u82 u83 u84 u85 u86 u87 u88 u89 u90 u91 u92 u93 u94 u95 u96 u97 u98 u99 u100 u101 u102 u103 u104 u105 u106 u107 u108 u109 u110 u111 u112 u113 u114 u115 u116 u117 u118 u119 u120 u121 u122 u123 u124 u125 u126 u127 u128 u129 u130 u131 u132 u133 u134 u135 u136 u137 u138 u139 u140 u141 u142 u143 u144 u145 u146 u147 u148 u149 u150 u151 u152 u153 u154 u155 u156 u157 u158 u159 u160 u161 u162 u163 u164 u165 u166 u167 u168 u169 u170 u171 u172 u173 u174 u175 u176 u177 u178 u179 u180 u181 u182 u183 u184 u185 u186 u187 u188 u189 u190 u191 u192 u193 u194 u195 u196 u197 u198 u199 u200 u201 u202 u203 u204 u205 u206 u207 u208 u209 u210 u211 u212 u213 u214 u215 u216 u217 u218 u219 u220 u221 u222 u223 u224 u225 u226 u227 u228 u229 u230 u231 u232 u233 u234 u235 u236 u237 u238 u239 u240 u241 u242 u243 u244 u245 u246 u247 u248 u249 u250 u251 u252 u253 u254 u255 u256 u257 u258 u259 u260 u261 u262 u263 u264 u265 u266 u267 u268 u269 u270 u271 u272 u273 u274 u275 u276 u277 u278 u279 u280 u281 u282 u283 u284 u285 u286 u287 u288 u289 u290 u291 : Value) (wx : World) (E : EnvJ J A w) (C : C14 J w w9 wt G jb bb nb pcv ap) (M : Mst J pv (gs J.dat J.n) wt wx) :
    Code.wp Yba.prog ((Yba.f4.body.bind (dropS 23)).getD .skip) (bodyPost Yba.prog Yba.f4 fun e w' => e = .returned (.bool true) ∧ Below w.heap.size w w') ⟨#[.slice A.a0 J.n A.cap, u1, u2, u3, u4, u5, u6, .int .i64 J.n, .slice (some ⟨G, 0, none⟩) J.n J.n, .slice (some ⟨G + 1, 0, none⟩) J.n J.n, .slice (some ⟨G + 2, 0, none⟩) J.n J.n, u11, u12, u13, u14, u15, u16, u17, u18, u19, pcv, .slice (some ⟨w9.heap.size, 0, none⟩) J.n J.n, u22, .pointer (some ⟨w9.heap.size + 1, 0, none⟩), .pointer (some ⟨w9.heap.size + 3, 0, none⟩), .pointer (some ⟨wt.heap.size, 0, none⟩), pv, .slice (some ⟨wt.heap.size + 1, 0, none⟩) J.n J.n, u28, u29, u30, u31, u32, u33, u34, u35, u36, u37, u38, u39, u40, u41, u42, u43, u44, u45, u46, u47, u48, u49, u50, u51, u52, u53, u54, u55, u56, u57, u58, u59, u60, u61, u62, u63, u64, u65, u66, u67, u68, u69, u70, u71, u72, u73, u74, u75, u76, u77, u78, u79, u80, u81, u82, u83, u84, u85, u86, u87, u88, u89, u90, u91, u92, u93, u94, u95, u96, u97, u98, u99, u100, u101, u102, u103, u104, u105, u106, u107, u108, u109, u110, u111, u112, u113, u114, u115, u116, u117, u118, u119, u120, u121, u122, u123, u124, u125, u126, u127, u128, u129, u130, u131, u132, u133, u134, u135, u136, u137, u138, u139, u140, u141, u142, u143, u144, u145, u146, u147, u148, u149, u150, u151, u152, u153, u154, u155, u156, u157, u158, u159, u160, u161, u162, u163, u164, u165, u166, u167, u168, u169, u170, u171, u172, u173, u174, u175, u176, u177, u178, u179, u180, u181, u182, u183, u184, u185, u186, u187, u188, u189, u190, u191, u192, u193, u194, u195, u196, u197, u198, u199, u200, u201, u202, u203, u204, u205, u206, u207, u208, u209, u210, u211, u212, u213, u214, u215, u216, u217, u218, u219, u220, u221, u222, u223, u224, u225, u226, u227, u228, u229, u230, u231, u232, u233, u234, u235, u236, u237, u238, u239, u240, u241, u242, u243, u244, u245, u246, u247, u248, u249, u250, u251, u252, u253, u254, u255, u256, u257, u258, u259, u260, u261, u262, u263, u264, u265, u266, u267, u268, u269, u270, u271, u272, u273, u274, u275, u276, u277, u278, u279, u280, u281, u282, u283, u284, u285, u286, u287, u288, u289, u290, u291], []⟩ wx := by
  conv => arg 2; whnf
  let Q' : Exit → Act → World → Prop := (bodyPost Yba.prog Yba.f4 fun e w' => e = .returned (.bool true) ∧ Below w.heap.size w w')
  show Code.wp Yba.prog _ Q' _ _
  obtain ⟨us, hus⟩ : ∃ us, us = (gs J.dat J.n).us := ⟨_, rfl⟩
  have hpol := C.dyn.pol
  rw [← hus] at hpol
  have hocc := M.occ
  rw [← hus] at hocc
  have hlt := C.lt
  have HC := hide (show _ ∧ _ ∧ _ from ⟨C, M, E⟩)
  have r0 : wx.cell? ⟨w9.heap.size + 1, 1, none⟩ = some (.bool (us 0)) := later M.bel (hpol.us 0 (by decide))
  have r1 : wx.cell? ⟨w9.heap.size + 1, 2, none⟩ = some (.bool (us 1)) := later M.bel (hpol.us 1 (by decide))
  have r2 : wx.cell? ⟨w9.heap.size + 1, 3, none⟩ = some (.bool (us 2)) := later M.bel (hpol.us 2 (by decide))
  have r3 : wx.cell? ⟨w9.heap.size + 1, 4, none⟩ = some (.bool (us 3)) := later M.bel (hpol.us 3 (by decide))
  have r4 : wx.cell? ⟨w9.heap.size + 1, 5, none⟩ = some (.bool (us 4)) := later M.bel (hpol.us 4 (by decide))
  have r5 : wx.cell? ⟨w9.heap.size + 1, 6, none⟩ = some (.bool (us 5)) := later M.bel (hpol.us 5 (by decide))
  have r6 : wx.cell? ⟨w9.heap.size + 1, 7, none⟩ = some (.bool (us 6)) := later M.bel (hpol.us 6 (by decide))
  have r7 : wx.cell? ⟨w9.heap.size + 1, 8, none⟩ = some (.bool (us 7)) := later M.bel (hpol.us 7 (by decide))
  have o0 : wx.cell? ⟨wt.heap.size, 0, none⟩ = some (.bool (us 0)) := (cells_at hocc 0).trans (usA_at us 0 (by decide))
  have o1 : wx.cell? ⟨wt.heap.size, 1, none⟩ = some (.bool (us 1)) := (cells_at hocc 1).trans (usA_at us 1 (by decide))
  have o2 : wx.cell? ⟨wt.heap.size, 2, none⟩ = some (.bool (us 2)) := (cells_at hocc 2).trans (usA_at us 2 (by decide))
  have o3 : wx.cell? ⟨wt.heap.size, 3, none⟩ = some (.bool (us 3)) := (cells_at hocc 3).trans (usA_at us 3 (by decide))
  have o4 : wx.cell? ⟨wt.heap.size, 4, none⟩ = some (.bool (us 4)) := (cells_at hocc 4).trans (usA_at us 4 (by decide))
  have o5 : wx.cell? ⟨wt.heap.size, 5, none⟩ = some (.bool (us 5)) := (cells_at hocc 5).trans (usA_at us 5 (by decide))
  have o6 : wx.cell? ⟨wt.heap.size, 6, none⟩ = some (.bool (us 6)) := (cells_at hocc 6).trans (usA_at us 6 (by decide))
  have o7 : wx.cell? ⟨wt.heap.size, 7, none⟩ = some (.bool (us 7)) := (cells_at hocc 7).trans (usA_at us 7 (by decide))
  have hq : ∀ W : World, (binOp .eql 109 (.agg #[.bool (us 0), .bool (us 1), .bool (us 2), .bool (us 3), .bool (us 4), .bool (us 5), .bool (us 6), .bool (us 7)]) (.agg #[.bool (us 0), .bool (us 1), .bool (us 2), .bool (us 3), .bool (us 4), .bool (us 5), .bool (us 6), .bool (us 7)])).run Yba.prog W = .ok (.bool true) W := fun W => eql_us us W
  have s1 : w9.heap.size + 1 < wx.heap.size := lt_of_cell r0
  have s2 : wt.heap.size < wx.heap.size := lt_of_cell o0
  clear hpol hocc hus C M
  go_wp2_with fail
  go_region
  all_goals go_wp2_with fail
  all_goals go_ret
  all_goals exact ⟨rfl, (HC.out.1.below HC.out.2.1.bel).drew⟩

set_option maxRecDepth 100000 in
set_option maxHeartbeats 2000000 in
theorem tailC22 (J : JIn) (A : JAd) (w : World) (w9 wt : World) (G : Nat) (jb bb nb : Nat → Nat) (pcv pv : Value) (ap : Nat → Value) (u1 u2 u3 u4 u5 u6 u11 u12 u13 u14 u15 u16 u17 u18 u19 u22 u28 u29 u30 u31 u32 u33 u34 u35 u36 u37 u38 u39 u40 u41 u42 u43 u44 u45 u46 u47 u48 u49 u50 u51 u52 u53 u54 u55 u56 u57 u58 u59 u60 u61 u62 u63 u64 u65 u66 u67 u68 u69 u70 u71 u72 u73 u74 u75 u76 u77 u78 u79 u80 u81 u82 u83 u84 u85 u86 u87 u88 u89 u90 u91 u92 u93 u94 u95 u96 u97 u98 u99 u100 u101 u102 u103 u104 u105 u106 u107 u108 u109 u110 u111 u112 u113 u114 u115 u116 u117 u118 u119 u120 u121 u122 u123 u124 u125 u126 u127 u128 u129 u130 u131 u132 u133 u134 u135 u136 u137 u138 u139 u140 u141 u142 u143 u144 u145 u146 u147 u148 u149 u150 u151 u152 u153 u154 u155 u156 u157 u158 u159 u160 u161 u162 u163 u164 u165 u166 u167 u168 u169 u170 u171 u172 u173 u174 u175 u176 u177 u178 u179 u180 u181 u182 u183 u184 u185 u186 u187 u188 u189 u190 u191 u192 u193 u194 u195 u196 u197 u198 u199 u200 u201 u202 u203 u204 u205 u206 u207 u208 u209 u210 u211 u212 u213 u214 u215 u216 u217 u218 u219 u220 u221 u222 u223 u224 u225 u226 u227 u228 u229 u230 u231 u232 u233 u234 u235 u236 u237 u238 u239 u240 u241 u242 u243 u244 u245 u246 u247 u248 u249 u250 u251 u252 u253 u254 u255 u256 u257 u258 u259 u260 u261 u262 u263 u264 u265 u266 u267 u268 u269 u270 u271 u272 u273 u274 u275 u276 u277 u278 u279 u280 u281 u282 u283 u284 u285 u286 u287 u288 u289 u290 u291 : Value) (wx : World) (E : EnvJ J A w) (C : C14 J w w9 wt G jb bb nb pcv ap) (M : Mst J pv (gs J.dat J.n) wt wx) :
    Code.wp Yba.prog ((Yba.f4.body.bind (dropS 22)).getD .skip) (bodyPost Yba.prog Yba.f4 fun e w' => e = .returned (.bool true) ∧ Below w.heap.size w w') ⟨#[.slice A.a0 J.n A.cap, u1, u2, u3, u4, u5, u6, .int .i64 J.n, .slice (some ⟨G, 0, none⟩) J.n J.n, .slice (some ⟨G + 1, 0, none⟩) J.n J.n, .slice (some ⟨G + 2, 0, none⟩) J.n J.n, u11, u12, u13, u14, u15, u16, u17, u18, u19, pcv, .slice (some ⟨w9.heap.size, 0, none⟩) J.n J.n, u22, .pointer (some ⟨w9.heap.size + 1, 0, none⟩), .pointer (some ⟨w9.heap.size + 3, 0, none⟩), .pointer (some ⟨wt.heap.size, 0, none⟩), pv, .slice (some ⟨wt.heap.size + 1, 0, none⟩) J.n J.n, u28, u29, u30, u31, u32, u33, u34, u35, u36, u37, u38, u39, u40, u41, u42, u43, u44, u45, u46, u47, u48, u49, u50, u51, u52, u53, u54, u55, u56, u57, u58, u59, u60, u61, u62, u63, u64, u65, u66, u67, u68, u69, u70, u71, u72, u73, u74, u75, u76, u77, u78, u79, u80, u81, u82, u83, u84, u85, u86, u87, u88, u89, u90, u91, u92, u93, u94, u95, u96, u97, u98, u99, u100, u101, u102, u103, u104, u105, u106, u107, u108, u109, u110, u111, u112, u113, u114, u115, u116, u117, u118, u119, u120, u121, u122, u123, u124, u125, u126, u127, u128, u129, u130, u131, u132, u133, u134, u135, u136, u137, u138, u139, u140, u141, u142, u143, u144, u145, u146, u147, u148, u149, u150, u151, u152, u153, u154, u155, u156, u157, u158, u159, u160, u161, u162, u163, u164, u165, u166, u167, u168, u169, u170, u171, u172, u173, u174, u175, u176, u177, u178, u179, u180, u181, u182, u183, u184, u185, u186, u187, u188, u189, u190, u191, u192, u193, u194, u195, u196, u197, u198, u199, u200, u201, u202, u203, u204, u205, u206, u207, u208, u209, u210, u211, u212, u213, u214, u215, u216, u217, u218, u219, u220, u221, u222, u223, u224, u225, u226, u227, u228, u229, u230, u231, u232, u233, u234, u235, u236, u237, u238, u239, u240, u241, u242, u243, u244, u245, u246, u247, u248, u249, u250, u251, u252, u253, u254, u255, u256, u257, u258, u259, u260, u261, u262, u263, u264, u265, u266, u267, u268, u269, u270, u271, u272, u273, u274, u275, u276, u277, u278, u279, u280, u281, u282, u283, u284, u285, u286, u287, u288, u289, u290, u291], []⟩ wx := by
  conv => arg 2; whnf
  let Q' : Exit → Act → World → Prop := (bodyPost Yba.prog Yba.f4 fun e w' => e = .returned (.bool true) ∧ Below w.heap.size w w')
  show Code.wp Yba.prog _ Q' _ _
  refine seq_cut fun J' K hJ hK => ?_
  obtain ⟨ps, hps⟩ : ∃ ps, ps = (gs J.dat J.n).ps := ⟨_, rfl⟩
  obtain ⟨v5, e5, o5⟩ := C.dyn.k5
  have o6 := M.pnd
  rw [← hps] at o5 o6
  have hlen : ps.length ≤ 1024 := by rw [hps]; exact C.dyn.psn
  have e5' : wx.cell? ⟨w9.heap.size + 3, 5, none⟩ = some v5 := later M.bel e5
  have o5' := own_kept o5 (fun k _ _ hl => M.bel.block k hl)
  obtain ⟨a1, c1, rfl, h1⟩ := own_shape o5'
  obtain ⟨a2, c2, rfl, h2⟩ := own_shape o6
  have s1 := lt_of_cell e5'
  have HC := hide (show _ ∧ _ ∧ _ ∧ _ from ⟨C, M, h1, h2⟩)
  have HE := hide E
  clear hps C M h1 h2 o5 o6 o5' e5 E
  go_wp2_with fail
  go_loopw [270] (fun iv wr => ∃ i : Nat, i ≤ ps.length ∧ iv = .int .i64 i ∧ Below wx.heap.size wx wr) (fun iv _ => ps.length - (intOf iv).toNat)
  case atStart => exact ⟨0, Nat.zero_le _, rfl, Below.refl _ _⟩
  case round =>
    obtain ⟨i, hi, rfl, L⟩ := hrel
    by_cases hl : i < ps.length
    · obtain ⟨g1, ea1, h1⟩ := HC.out.2.2.1 (by omega)
      obtain ⟨g2, ea2, h2⟩ := HC.out.2.2.2 (by omega)
      have d5 := later L e5'
      have d1 := later L (h1 i hl)
      have d2 := later L (h2 i hl)
      have HL := hide L
      have HA := hide (show _ ∧ _ from ⟨ea1, ea2⟩)
      rw [ea1] at d5
      rw [ea2]
      clear h1 h2 L ea1 ea2
      generalize (ps[i] : Nat) = x at *
      go_wp2_with fail
      go_region
      all_goals go_wp2_with fail
      all_goals go_roundw
      case rel => exact ⟨i + 1, by omega, by simp, HL.out.drew⟩
      case measure => simp [intOf]; omega
    · have hie : i = ps.length := by omega
      subst hie
      have HL := hide L
      clear L
      go_wp2_with fail
      refine Met.intro (hJ.out _ _ ?_)
      exact tailC23 J A w w9 wt G jb bb nb pcv _ ap _ _ _ _ _ _ _ _ _ _ _ _ _ _ _ _ _ _ _ _ _ _ _ _ _ _ _ _ _ _ _ _ _ _ _ _ _ _ _ _ _ _ _ _ _ _ _ _ _ _ _ _ _ _ _ _ _ _ _ _ _ _ _ _ _ _ _ _ _ _ _ _ _ _ _ _ _ _ _ _ _ _ _ _ _ _ _ _ _ _ _ _ _ _ _ _ _ _ _ _ _ _ _ _ _ _ _ _ _ _ _ _ _ _ _ _ _ _ _ _ _ _ _ _ _ _ _ _ _ _ _ _ _ _ _ _ _ _ _ _ _ _ _ _ _ _ _ _ _ _ _ _ _ _ _ _ _ _ _ _ _ _ _ _ _ _ _ _ _ _ _ _ _ _ _ _ _ _ _ _ _ _ _ _ _ _ _ _ _ _ _ _ _ _ _ _ _ _ _ _ _ _ _ _ _ _ _ _ _ _ _ _ _ _ _ _ _ _ _ _ _ _ _ _ _ _ _ _ _ _ _ _ _ _ _ _ _ _ _ _ _ _ _ _ _ _ _ _ _ _ _ _ _ _ _ _ _ _ _ _ _ _ _ _ _ _ _ _ _ _ _ _ _ _ _ _ _ _ _ _ wr HE.out HC.out.1 (HC.out.2.1.next HL.out)

set_option maxRecDepth 100000 in
set_option maxHeartbeats 2000000 in
theorem tailC21 (J : JIn) (A : JAd) (w : World) (w9 wt : World) (G : Nat) (jb bb nb : Nat → Nat) (pcv pv : Value) (ap : Nat → Value) (u1 u2 u3 u4 u5 u6 u11 u12 u13 u14 u15 u16 u17 u18 u19 u22 u28 u29 u30 u31 u32 u33 u34 u35 u36 u37 u38 u39 u40 u41 u42 u43 u44 u45 u46 u47 u48 u49 u50 u51 u52 u53 u54 u55 u56 u57 u58 u59 u60 u61 u62 u63 u64 u65 u66 u67 u68 u69 u70 u71 u72 u73 u74 u75 u76 u77 u78 u79 u80 u81 u82 u83 u84 u85 u86 u87 u88 u89 u90 u91 u92 u93 u94 u95 u96 u97 u98 u99 u100 u101 u102 u103 u104 u105 u106 u107 u108 u109 u110 u111 u112 u113 u114 u115 u116 u117 u118 u119 u120 u121 u122 u123 u124 u125 u126 u127 u128 u129 u130 u131 u132 u133 u134 u135 u136 u137 u138 u139 u140 u141 u142 u143 u144 u145 u146 u147 u148 u149 u150 u151 u152 u153 u154 u155 u156 u157 u158 u159 u160 u161 u162 u163 u164 u165 u166 u167 u168 u169 u170 u171 u172 u173 u174 u175 u176 u177 u178 u179 u180 u181 u182 u183 u184 u185 u186 u187 u188 u189 u190 u191 u192 u193 u194 u195 u196 u197 u198 u199 u200 u201 u202 u203 u204 u205 u206 u207 u208 u209 u210 u211 u212 u213 u214 u215 u216 u217 u218 u219 u220 u221 u222 u223 u224 u225 u226 u227 u228 u229 u230 u231 u232 u233 u234 u235 u236 u237 u238 u239 u240 u241 u242 u243 u244 u245 u246 u247 u248 u249 u250 u251 u252 u253 u254 u255 u256 u257 u258 u259 u260 u261 u262 u263 u264 u265 u266 u267 u268 u269 u270 u271 u272 u273 u274 u275 u276 u277 u278 u279 u280 u281 u282 u283 u284 u285 u286 u287 u288 u289 u290 u291 : Value) (wx : World) (E : EnvJ J A w) (C : C14 J w w9 wt G jb bb nb pcv ap) (M : Mst J pv (gs J.dat J.n) wt wx) :
    Code.wp Yba.prog ((Yba.f4.body.bind (dropS 21)).getD .skip) (bodyPost Yba.prog Yba.f4 fun e w' => e = .returned (.bool true) ∧ Below w.heap.size w w') ⟨#[.slice A.a0 J.n A.cap, u1, u2, u3, u4, u5, u6, .int .i64 J.n, .slice (some ⟨G, 0, none⟩) J.n J.n, .slice (some ⟨G + 1, 0, none⟩) J.n J.n, .slice (some ⟨G + 2, 0, none⟩) J.n J.n, u11, u12, u13, u14, u15, u16, u17, u18, u19, pcv, .slice (some ⟨w9.heap.size, 0, none⟩) J.n J.n, u22, .pointer (some ⟨w9.heap.size + 1, 0, none⟩), .pointer (some ⟨w9.heap.size + 3, 0, none⟩), .pointer (some ⟨wt.heap.size, 0, none⟩), pv, .slice (some ⟨wt.heap.size + 1, 0, none⟩) J.n J.n, u28, u29, u30, u31, u32, u33, u34, u35, u36, u37, u38, u39, u40, u41, u42, u43, u44, u45, u46, u47, u48, u49, u50, u51, u52, u53, u54, u55, u56, u57, u58, u59, u60, u61, u62, u63, u64, u65, u66, u67, u68, u69, u70, u71, u72, u73, u74, u75, u76, u77, u78, u79, u80, u81, u82, u83, u84, u85, u86, u87, u88, u89, u90, u91, u92, u93, u94, u95, u96, u97, u98, u99, u100, u101, u102, u103, u104, u105, u106, u107, u108, u109, u110, u111, u112, u113, u114, u115, u116, u117, u118, u119, u120, u121, u122, u123, u124, u125, u126, u127, u128, u129, u130, u131, u132, u133, u134, u135, u136, u137, u138, u139, u140, u141, u142, u143, u144, u145, u146, u147, u148, u149, u150, u151, u152, u153, u154, u155, u156, u157, u158, u159, u160, u161, u162, u163, u164, u165, u166, u167, u168, u169, u170, u171, u172, u173, u174, u175, u176, u177, u178, u179, u180, u181, u182, u183, u184, u185, u186, u187, u188, u189, u190, u191, u192, u193, u194, u195, u196, u197, u198, u199, u200, u201, u202, u203, u204, u205, u206, u207, u208, u209, u210, u211, u212, u213, u214, u215, u216, u217, u218, u219, u220, u221, u222, u223, u224, u225, u226, u227, u228, u229, u230, u231, u232, u233, u234, u235, u236, u237, u238, u239, u240, u241, u242, u243, u244, u245, u246, u247, u248, u249, u250, u251, u252, u253, u254, u255, u256, u257, u258, u259, u260, u261, u262, u263, u264, u265, u266, u267, u268, u269, u270, u271, u272, u273, u274, u275, u276, u277, u278, u279, u280, u281, u282, u283, u284, u285, u286, u287, u288, u289, u290, u291], []⟩ wx := by
  conv => arg 2; whnf
  let Q' : Exit → Act → World → Prop := (bodyPost Yba.prog Yba.f4 fun e w' => e = .returned (.bool true) ∧ Below w.heap.size w w')
  show Code.wp Yba.prog _ Q' _ _
  refine seq_cut fun J' K hJ hK => ?_
  obtain ⟨v5, e5, o5⟩ := C.dyn.k5
  have e5' : wx.cell? ⟨w9.heap.size + 3, 5, none⟩ = some v5 := later M.bel e5
  have o5' := own_kept o5 (fun k _ _ hl => M.bel.block k hl)
  obtain ⟨a1, c1, rfl, x1⟩ := own_shape o5'
  obtain ⟨a2, c2, rfl, x2⟩ := own_shape M.pnd
  clear x1 x2
  have s1 := lt_of_cell e5'
  have hlen : (gs J.dat J.n).ps.length ≤ 1024 := C.dyn.psn
  have HC := hide (show _ ∧ _ ∧ _ from ⟨C, M, E⟩)
  clear C M o5 o5' e5 E
  generalize (gs J.dat J.n).ps.length = L at *
  go_wp2_with fail
  refine Met.intro (hJ.out _ _ ?_)
  exact tailC22 J A w w9 wt G jb bb nb pcv _ ap _ _ _ _ _ _ _ _ _ _ _ _ _ _ _ _ _ _ _ _ _ _ _ _ _ _ _ _ _ _ _ _ _ _ _ _ _ _ _ _ _ _ _ _ _ _ _ _ _ _ _ _ _ _ _ _ _ _ _ _ _ _ _ _ _ _ _ _ _ _ _ _ _ _ _ _ _ _ _ _ _ _ _ _ _ _ _ _ _ _ _ _ _ _ _ _ _ _ _ _ _ _ _ _ _ _ _ _ _ _ _ _ _ _ _ _ _ _ _ _ _ _ _ _ _ _ _ _ _ _ _ _ _ _ _ _ _ _ _ _ _ _ _ _ _ _ _ _ _ _ _ _ _ _ _ _ _ _ _ _ _ _ _ _ _ _ _ _ _ _ _ _ _ _ _ _ _ _ _ _ _ _ _ _ _ _ _ _ _ _ _ _ _ _ _ _ _ _ _ _ _ _ _ _ _ _ _ _ _ _ _ _ _ _ _ _ _ _ _ _ _ _ _ _ _ _ _ _ _ _ _ _ _ _ _ _ _ _ _ _ _ _ _ _ _ _ _ _ _ _ _ _ _ _ _ _ _ _ _ _ _ _ _ _ _ _ _ _ _ _ _ _ _ _ _ _ _ _ _ _ wx HC.out.2.2 HC.out.1 HC.out.2.1

set_option maxRecDepth 100000 in
set_option maxHeartbeats 2000000 in
theorem tailC20 (J : JIn) (A : JAd) (w : World) (w9 wt : World) (G : Nat) (jb bb nb : Nat → Nat) (pcv pv : Value) (ap : Nat → Value) (u1 u2 u3 u4 u5 u6 u11 u12 u13 u14 u15 u16 u17 u18 u19 u22 u28 u29 u30 u31 u32 u33 u34 u35 u36 u37 u38 u39 u40 u41 u42 u43 u44 u45 u46 u47 u48 u49 u50 u51 u52 u53 u54 u55 u56 u57 u58 u59 u60 u61 u62 u63 u64 u65 u66 u67 u68 u69 u70 u71 u72 u73 u74 u75 u76 u77 u78 u79 u80 u81 u82 u83 u84 u85 u86 u87 u88 u89 u90 u91 u92 u93 u94 u95 u96 u97 u98 u99 u100 u101 u102 u103 u104 u105 u106 u107 u108 u109 u110 u111 u112 u113 u114 u115 u116 u117 u118 u119 u120 u121 u122 u123 u124 u125 u126 u127 u128 u129 u130 u131 u132 u133 u134 u135 u136 u137 u138 u139 u140 u141 u142 u143 u144 u145 u146 u147 u148 u149 u150 u151 u152 u153 u154 u155 u156 u157 u158 u159 u160 u161 u162 u163 u164 u165 u166 u167 u168 u169 u170 u171 u172 u173 u174 u175 u176 u177 u178 u179 u180 u181 u182 u183 u184 u185 u186 u187 u188 u189 u190 u191 u192 u193 u194 u195 u196 u197 u198 u199 u200 u201 u202 u203 u204 u205 u206 u207 u208 u209 u210 u211 u212 u213 u214 u215 u216 u217 u218 u219 u220 u221 u222 u223 u224 u225 u226 u227 u228 u229 u230 u231 u232 u233 u234 u235 u236 u237 u238 u239 u240 u241 u242 u243 u244 u245 u246 u247 u248 u249 u250 u251 u252 u253 u254 u255 u256 u257 u258 u259 u260 u261 u262 u263 u264 u265 u266 u267 u268 u269 u270 u271 u272 u273 u274 u275 u276 u277 u278 u279 u280 u281 u282 u283 u284 u285 u286 u287 u288 u289 u290 u291 : Value) (wx : World) (E : EnvJ J A w) (C : C14 J w w9 wt G jb bb nb pcv ap) (M : Mst J pv (gs J.dat J.n) wt wx) :
    Code.wp Yba.prog ((Yba.f4.body.bind (dropS 20)).getD .skip) (bodyPost Yba.prog Yba.f4 fun e w' => e = .returned (.bool true) ∧ Below w.heap.size w w') ⟨#[.slice A.a0 J.n A.cap, u1, u2, u3, u4, u5, u6, .int .i64 J.n, .slice (some ⟨G, 0, none⟩) J.n J.n, .slice (some ⟨G + 1, 0, none⟩) J.n J.n, .slice (some ⟨G + 2, 0, none⟩) J.n J.n, u11, u12, u13, u14, u15, u16, u17, u18, u19, pcv, .slice (some ⟨w9.heap.size, 0, none⟩) J.n J.n, u22, .pointer (some ⟨w9.heap.size + 1, 0, none⟩), .pointer (some ⟨w9.heap.size + 3, 0, none⟩), .pointer (some ⟨wt.heap.size, 0, none⟩), pv, .slice (some ⟨wt.heap.size + 1, 0, none⟩) J.n J.n, u28, u29, u30, u31, u32, u33, u34, u35, u36, u37, u38, u39, u40, u41, u42, u43, u44, u45, u46, u47, u48, u49, u50, u51, u52, u53, u54, u55, u56, u57, u58, u59, u60, u61, u62, u63, u64, u65, u66, u67, u68, u69, u70, u71, u72, u73, u74, u75, u76, u77, u78, u79, u80, u81, u82, u83, u84, u85, u86, u87, u88, u89, u90, u91, u92, u93, u94, u95, u96, u97, u98, u99, u100, u101, u102, u103, u104, u105, u106, u107, u108, u109, u110, u111, u112, u113, u114, u115, u116, u117, u118, u119, u120, u121, u122, u123, u124, u125, u126, u127, u128, u129, u130, u131, u132, u133, u134, u135, u136, u137, u138, u139, u140, u141, u142, u143, u144, u145, u146, u147, u148, u149, u150, u151, u152, u153, u154, u155, u156, u157, u158, u159, u160, u161, u162, u163, u164, u165, u166, u167, u168, u169, u170, u171, u172, u173, u174, u175, u176, u177, u178, u179, u180, u181, u182, u183, u184, u185, u186, u187, u188, u189, u190, u191, u192, u193, u194, u195, u196, u197, u198, u199, u200, u201, u202, u203, u204, u205, u206, u207, u208, u209, u210, u211, u212, u213, u214, u215, u216, u217, u218, u219, u220, u221, u222, u223, u224, u225, u226, u227, u228, u229, u230, u231, u232, u233, u234, u235, u236, u237, u238, u239, u240, u241, u242, u243, u244, u245, u246, u247, u248, u249, u250, u251, u252, u253, u254, u255, u256, u257, u258, u259, u260, u261, u262, u263, u264, u265, u266, u267, u268, u269, u270, u271, u272, u273, u274, u275, u276, u277, u278, u279, u280, u281, u282, u283, u284, u285, u286, u287, u288, u289, u290, u291], []⟩ wx := by
  conv => arg 2; whnf
  let Q' : Exit → Act → World → Prop := (bodyPost Yba.prog Yba.f4 fun e w' => e = .returned (.bool true) ∧ Below w.heap.size w w')
  show Code.wp Yba.prog _ Q' _ _
  refine seq_cut fun J' K hJ hK => ?_
  have e3 : wx.cell? ⟨w9.heap.size + 3, 3, none⟩ = some (.slice (some ⟨w9.heap.size, 0, none⟩) J.n J.n) := later M.bel C.dyn.k3
  have s1 := lt_of_cell e3
  have HQ := hide (eqi_some w9.heap.size (wt.heap.size + 1) J.n J.n J.n (gs J.dat J.n).ch wx (by have := C.hB.n1; omega) (fun i hi => later M.bel (C.dyn.cho i hi)) (fun i hi => M.exc i hi))
  have HC := hide (show _ ∧ _ ∧ _ from ⟨C, M, E⟩)
  clear C M E
  go_wp2_with (go_at_call 13; refine HQ.out.mono ?_; rintro e w2 ⟨rfl, l2⟩; have H2 := hide l2; clear l2 HQ)
  refine Met.intro (hJ.out _ _ ?_)
  exact tailC21 J A w w9 wt G jb bb nb pcv _ ap _ _ _ _ _ _ _ _ _ _ _ _ _ _ _ _ _ _ _ _ _ _ _ _ _ _ _ _ _ _ _ _ _ _ _ _ _ _ _ _ _ _ _ _ _ _ _ _ _ _ _ _ _ _ _ _ _ _ _ _ _ _ _ _ _ _ _ _ _ _ _ _ _ _ _ _ _ _ _ _ _ _ _ _ _ _ _ _ _ _ _ _ _ _ _ _ _ _ _ _ _ _ _ _ _ _ _ _ _ _ _ _ _ _ _ _ _ _ _ _ _ _ _ _ _ _ _ _ _ _ _ _ _ _ _ _ _ _ _ _ _ _ _ _ _ _ _ _ _ _ _ _ _ _ _ _ _ _ _ _ _ _ _ _ _ _ _ _ _ _ _ _ _ _ _ _ _ _ _ _ _ _ _ _ _ _ _ _ _ _ _ _ _ _ _ _ _ _ _ _ _ _ _ _ _ _ _ _ _ _ _ _ _ _ _ _ _ _ _ _ _ _ _ _ _ _ _ _ _ _ _ _ _ _ _ _ _ _ _ _ _ _ _ _ _ _ _ _ _ _ _ _ _ _ _ _ _ _ _ _ _ _ _ _ _ _ _ _ _ _ _ _ _ _ _ _ _ _ _ _ w2 HC.out.2.2 HC.out.1 (HC.out.2.1.next H2.out)

set_option maxRecDepth 100000 in
set_option maxHeartbeats 2000000 in
theorem tailC19 (J : JIn) (A : JAd) (w : World) (w9 wt : World) (G : Nat) (jb bb nb : Nat → Nat) (pcv pv : Value) (ap : Nat → Value) (u1 u2 u3 u4 u5 u6 u11 u12 u13 u14 u15 u16 u17 u18 u19 u22 u28 u29 u30 u31 u32 u33 u34 u35 u36 u37 u38 u39 u40 u41 u42 u43 u44 u45 u46 u47 u48 u49 u50 u51 u52 u53 u54 u55 u56 u57 u58 u59 u60 u61 u62 u63 u64 u65 u66 u67 u68 u69 u70 u71 u72 u73 u74 u75 u76 u77 u78 u79 u80 u81 u82 u83 u84 u85 u86 u87 u88 u89 u90 u91 u92 u93 u94 u95 u96 u97 u98 u99 u100 u101 u102 u103 u104 u105 u106 u107 u108 u109 u110 u111 u112 u113 u114 u115 u116 u117 u118 u119 u120 u121 u122 u123 u124 u125 u126 u127 u128 u129 u130 u131 u132 u133 u134 u135 u136 u137 u138 u139 u140 u141 u142 u143 u144 u145 u146 u147 u148 u149 u150 u151 u152 u153 u154 u155 u156 u157 u158 u159 u160 u161 u162 u163 u164 u165 u166 u167 u168 u169 u170 u171 u172 u173 u174 u175 u176 u177 u178 u179 u180 u181 u182 u183 u184 u185 u186 u187 u188 u189 u190 u191 u192 u193 u194 u195 u196 u197 u198 u199 u200 u201 u202 u203 u204 u205 u206 u207 u208 u209 u210 u211 u212 u213 u214 u215 u216 u217 u218 u219 u220 u221 u222 u223 u224 u225 u226 u227 u228 u229 u230 u231 u232 u233 u234 u235 u236 u237 u238 u239 u240 u241 u242 u243 u244 u245 u246 u247 u248 u249 u250 u251 u252 u253 u254 u255 u256 u257 u258 u259 u260 u261 u262 u263 u264 u265 u266 u267 u268 u269 u270 u271 u272 u273 u274 u275 u276 u277 u278 u279 u280 u281 u282 u283 u284 u285 u286 u287 u288 u289 u290 u291 : Value) (wx : World) (E : EnvJ J A w) (C : C14 J w w9 wt G jb bb nb pcv ap) (M : Mst J pv (gs J.dat J.n) wt wx) :
    Code.wp Yba.prog ((Yba.f4.body.bind (dropS 19)).getD .skip) (bodyPost Yba.prog Yba.f4 fun e w' => e = .returned (.bool true) ∧ Below w.heap.size w w') ⟨#[.slice A.a0 J.n A.cap, u1, u2, u3, u4, u5, u6, .int .i64 J.n, .slice (some ⟨G, 0, none⟩) J.n J.n, .slice (some ⟨G + 1, 0, none⟩) J.n J.n, .slice (some ⟨G + 2, 0, none⟩) J.n J.n, u11, u12, u13, u14, u15, u16, u17, u18, u19, pcv, .slice (some ⟨w9.heap.size, 0, none⟩) J.n J.n, u22, .pointer (some ⟨w9.heap.size + 1, 0, none⟩), .pointer (some ⟨w9.heap.size + 3, 0, none⟩), .pointer (some ⟨wt.heap.size, 0, none⟩), pv, .slice (some ⟨wt.heap.size + 1, 0, none⟩) J.n J.n, u28, u29, u30, u31, u32, u33, u34, u35, u36, u37, u38, u39, u40, u41, u42, u43, u44, u45, u46, u47, u48, u49, u50, u51, u52, u53, u54, u55, u56, u57, u58, u59, u60, u61, u62, u63, u64, u65, u66, u67, u68, u69, u70, u71, u72, u73, u74, u75, u76, u77, u78, u79, u80, u81, u82, u83, u84, u85, u86, u87, u88, u89, u90, u91, u92, u93, u94, u95, u96, u97, u98, u99, u100, u101, u102, u103, u104, u105, u106, u107, u108, u109, u110, u111, u112, u113, u114, u115, u116, u117, u118, u119, u120, u121, u122, u123, u124, u125, u126, u127, u128, u129, u130, u131, u132, u133, u134, u135, u136, u137, u138, u139, u140, u141, u142, u143, u144, u145, u146, u147, u148, u149, u150, u151, u152, u153, u154, u155, u156, u157, u158, u159, u160, u161, u162, u163, u164, u165, u166, u167, u168, u169, u170, u171, u172, u173, u174, u175, u176, u177, u178, u179, u180, u181, u182, u183, u184, u185, u186, u187, u188, u189, u190, u191, u192, u193, u194, u195, u196, u197, u198, u199, u200, u201, u202, u203, u204, u205, u206, u207, u208, u209, u210, u211, u212, u213, u214, u215, u216, u217, u218, u219, u220, u221, u222, u223, u224, u225, u226, u227, u228, u229, u230, u231, u232, u233, u234, u235, u236, u237, u238, u239, u240, u241, u242, u243, u244, u245, u246, u247, u248, u249, u250, u251, u252, u253, u254, u255, u256, u257, u258, u259, u260, u261, u262, u263, u264, u265, u266, u267, u268, u269, u270, u271, u272, u273, u274, u275, u276, u277, u278, u279, u280, u281, u282, u283, u284, u285, u286, u287, u288, u289, u290, u291], []⟩ wx := by
  conv => arg 2; whnf
  let Q' : Exit → Act → World → Prop := (bodyPost Yba.prog Yba.f4 fun e w' => e = .returned (.bool true) ∧ Below w.heap.size w w')
  show Code.wp Yba.prog _ Q' _ _
  refine seq_cut fun J' K hJ hK => ?_
  have hpk : ∀ i, i < J.n → wx.cell? ⟨G + 1, i, none⟩ = some (.int .i64 (J.pk i)) := fun i hi => by
    have h := C.c9.bj.pks i hi
    rw [if_pos hi] at h
    exact later M.bel (later C.l9 h)
  have hpc : wx.ownsRow (G + 3) 3 1 pcv J.n (rowI J.n J.pk) := own_kept (own_kept C.c9.pc (fun k _ _ hl => C.l9.block k hl)) (fun k _ _ hl => M.bel.block k hl)
  have HQ : Calls Yba.prog 13 #[.slice (some ⟨G + 1, 0, none⟩) J.n J.n, pcv] wx fun e w' => e = .returned (.bool true) ∧ Below wx.heap.size wx w' := by
    rcases hpc.2 with ⟨rfl, h0⟩ | ⟨g, cap, cur, e, _⟩
    · have := eqi_nil (some ⟨G + 1, 0, none⟩) none J.n 0 wx
      rw [h0]; rw [h0] at this; exact this
    · subst e
      exact eqi_some (G + 1) g J.n cap J.n J.pk wx (by have := C.hB.n1; omega) hpk (fun i hi => by
        rw [hpc.cellAt i (by omega)]; exact rowI_at _ _ i hi)
  have HQ := hide HQ
  have HC := hide (show _ ∧ _ ∧ _ from ⟨C, M, E⟩)
  clear C M E hpk hpc
  go_wp2_with (go_at_call 13; refine HQ.out.mono ?_; rintro e w2 ⟨rfl, l2⟩; have H2 := hide l2; clear l2 HQ)
  refine Met.intro (hJ.out _ _ ?_)
  exact tailC20 J A w w9 wt G jb bb nb pcv _ ap _ _ _ _ _ _ _ _ _ _ _ _ _ _ _ _ _ _ _ _ _ _ _ _ _ _ _ _ _ _ _ _ _ _ _ _ _ _ _ _ _ _ _ _ _ _ _ _ _ _ _ _ _ _ _ _ _ _ _ _ _ _ _ _ _ _ _ _ _ _ _ _ _ _ _ _ _ _ _ _ _ _ _ _ _ _ _ _ _ _ _ _ _ _ _ _ _ _ _ _ _ _ _ _ _ _ _ _ _ _ _ _ _ _ _ _ _ _ _ _ _ _ _ _ _ _ _ _ _ _ _ _ _ _ _ _ _ _ _ _ _ _ _ _ _ _ _ _ _ _ _ _ _ _ _ _ _ _ _ _ _ _ _ _ _ _ _ _ _ _ _ _ _ _ _ _ _ _ _ _ _ _ _ _ _ _ _ _ _ _ _ _ _ _ _ _ _ _ _ _ _ _ _ _ _ _ _ _ _ _ _ _ _ _ _ _ _ _ _ _ _ _ _ _ _ _ _ _ _ _ _ _ _ _ _ _ _ _ _ _ _ _ _ _ _ _ _ _ _ _ _ _ _ _ _ _ _ _ _ _ _ _ _ _ _ _ _ _ _ _ _ _ _ _ _ _ _ _ _ _ w2 HC.out.2.2 HC.out.1 (HC.out.2.1.next H2.out)

end Go.Proofs.Ybulkbfpk
