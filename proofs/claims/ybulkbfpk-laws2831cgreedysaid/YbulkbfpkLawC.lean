import Derived.Test.YbulkbfpkLawH
namespace Go.Proofs.Ybulkbfpk
open Go.RowKit Go.Shelf
structure B5 (J : JIn) (G : Nat) (wx : World) : Prop where
  ex : ∀ s, s < J.n → ∀ j, j < 5 → ∃ u, wx.cell? ⟨G, s * 5 + j, none⟩ = some u
  fz : ∀ o, wx.frozen? ⟨G, o, none⟩ = false
  sz : wx.heap.size = G + 1
structure B6 (J : JIn) (G : Nat) (wx : World) : Prop where
  ex : ∀ s, s < J.n → ∀ j, j < 5 → ∃ u, wx.cell? ⟨G, s * 5 + j, none⟩ = some u
  pk : ∀ s, s < J.n → wx.cell? ⟨G + 1, s, none⟩ = some (.int .i64 0)
  fz : ∀ o, wx.frozen? ⟨G, o, none⟩ = false
  fz1 : ∀ o, wx.frozen? ⟨G + 1, o, none⟩ = false
  sz : wx.heap.size = G + 2
theorem B5.b6 {J : JIn} {G : Nat} {wx : World} (h : B5 J G wx) {C : Array Value} (hC : ∀ k, k < J.n → C[k]? = some (.int .i64 0)) : B6 J G (wx.alloc (.cells C 3)) := by
  have hs := h.sz
  have hn : (wx.alloc (.cells C 3)).heap[G + 1]? = some (.cells C 3) := by rw [← hs]; exact newBlock _ _
  refine ⟨fun s hs' j hj => ?_, fun s hs' => (cells_at hn s).trans (hC s hs'), fun o => ?_, frozen_at hn, by simp [hs]⟩
  · obtain ⟨u, hu⟩ := h.ex s hs' j hj
    exact ⟨u, (World.cell?_alloc_lt _ _ _ (lt_of_cell hu)).trans hu⟩
  · rw [World.frozen?_of_block (a := ⟨G, o, none⟩) (Below.heap_alloc _ _ _ (by show G < _; omega))]
    exact h.fz o
theorem B6.bj {J : JIn} {G : Nat} {wx : World} (h : B6 J G wx) {C : Array Value} (hC : ∀ k, k < J.n → C[k]? = some (.slice none 0 0)) : Bj J G 0 (fun _ => 0) (fun _ => 0) (fun _ => 0) (wx.alloc (.cells C 23)) := by
  have hs := h.sz
  have hn : (wx.alloc (.cells C 23)).heap[G + 2]? = some (.cells C 23) := by rw [← hs]; exact newBlock _ _
  refine ⟨fun s hs => by omega, fun s hs => by omega, fun s hs' j hj => ?_, fun s hs => by omega, fun s hs => by omega, fun s hs => by omega, fun s hs' => ?_, fun s hs' => ?_, fun b o h1 h2 => ?_, fun s hs => by omega, by simp [hs]⟩
  · obtain ⟨u, hu⟩ := h.ex s hs' j hj
    exact ⟨u, (World.cell?_alloc_lt _ _ _ (lt_of_cell hu)).trans hu⟩
  · rw [if_neg (by omega)]
    have hu := h.pk s hs'
    exact (World.cell?_alloc_lt _ _ _ (lt_of_cell hu)).trans hu
  · rw [if_neg (by omega), cells_at hn]; exact hC s hs'
  · rcases (by omega : b = G ∨ b = G + 1 ∨ b = G + 2) with e | e | e
    · subst e
      rw [World.frozen?_of_block (a := ⟨b, o, none⟩) (Below.heap_alloc _ _ _ (by show b < _; omega))]
      exact h.fz o
    · subst e
      rw [World.frozen?_of_block (a := ⟨G + 1, o, none⟩) (Below.heap_alloc _ _ _ (by show G + 1 < _; omega))]
      exact h.fz1 o
    · subst e; exact frozen_at hn o
set_option maxRecDepth 100000 in
set_option maxHeartbeats 2000000 in
theorem tailC6 (J : JIn) (A : JAd) (w : World) (G : Nat) (u1 u2 u3 u4 u5 u6 u10 u11 u12 u13 u14 u15 u16 u17 u18 u19 u20 u21 u22 u23 u24 u25 u26 u27 u28 u29 u30 u31 u32 u33 u34 u35 u36 u37 u38 u39 u40 u41 u42 u43 u44 u45 u46 u47 u48 u49 u50 u51 u52 u53 u54 u55 u56 u57 u58 u59 u60 u61 u62 u63 u64 u65 u66 u67 u68 u69 u70 u71 u72 u73 u74 u75 u76 u77 u78 u79 u80 u81 u82 u83 u84 u85 u86 u87 u88 u89 u90 u91 u92 u93 u94 u95 u96 u97 u98 u99 u100 u101 u102 u103 u104 u105 u106 u107 u108 u109 u110 u111 u112 u113 u114 u115 u116 u117 u118 u119 u120 u121 u122 u123 u124 u125 u126 u127 u128 u129 u130 u131 u132 u133 u134 u135 u136 u137 u138 u139 u140 u141 u142 u143 u144 u145 u146 u147 u148 u149 u150 u151 u152 u153 u154 u155 u156 u157 u158 u159 u160 u161 u162 u163 u164 u165 u166 u167 u168 u169 u170 u171 u172 u173 u174 u175 u176 u177 u178 u179 u180 u181 u182 u183 u184 u185 u186 u187 u188 u189 u190 u191 u192 u193 u194 u195 u196 u197 u198 u199 u200 u201 u202 u203 u204 u205 u206 u207 u208 u209 u210 u211 u212 u213 u214 u215 u216 u217 u218 u219 u220 u221 u222 u223 u224 u225 u226 u227 u228 u229 u230 u231 u232 u233 u234 u235 u236 u237 u238 u239 u240 u241 u242 u243 u244 u245 u246 u247 u248 u249 u250 u251 u252 u253 u254 u255 u256 u257 u258 u259 u260 u261 u262 u263 u264 u265 u266 u267 u268 u269 u270 u271 u272 u273 u274 u275 u276 u277 u278 u279 u280 u281 u282 u283 u284 u285 u286 u287 u288 u289 u290 u291 : Value) (wx : World) (E : EnvJ J A w) (hB : Bnd J) (hG : w.heap.size ≤ G) (hbel : Below w.heap.size w wx) (S : B6 J G wx) :
    Code.wp Yba.prog ((Yba.f4.body.bind (dropS 6)).getD .skip) (bodyPost Yba.prog Yba.f4 fun e w' => e = .returned (.bool true) ∧ Below w.heap.size w w') ⟨#[.slice A.a0 J.n A.cap, u1, u2, u3, u4, u5, u6, .int .i64 J.n, .slice (some ⟨G, 0, none⟩) J.n J.n, .slice (some ⟨G + 1, 0, none⟩) J.n J.n, u10, u11, u12, u13, u14, u15, u16, u17, u18, u19, u20, u21, u22, u23, u24, u25, u26, u27, u28, u29, u30, u31, u32, u33, u34, u35, u36, u37, u38, u39, u40, u41, u42, u43, u44, u45, u46, u47, u48, u49, u50, u51, u52, u53, u54, u55, u56, u57, u58, u59, u60, u61, u62, u63, u64, u65, u66, u67, u68, u69, u70, u71, u72, u73, u74, u75, u76, u77, u78, u79, u80, u81, u82, u83, u84, u85, u86, u87, u88, u89, u90, u91, u92, u93, u94, u95, u96, u97, u98, u99, u100, u101, u102, u103, u104, u105, u106, u107, u108, u109, u110, u111, u112, u113, u114, u115, u116, u117, u118, u119, u120, u121, u122, u123, u124, u125, u126, u127, u128, u129, u130, u131, u132, u133, u134, u135, u136, u137, u138, u139, u140, u141, u142, u143, u144, u145, u146, u147, u148, u149, u150, u151, u152, u153, u154, u155, u156, u157, u158, u159, u160, u161, u162, u163, u164, u165, u166, u167, u168, u169, u170, u171, u172, u173, u174, u175, u176, u177, u178, u179, u180, u181, u182, u183, u184, u185, u186, u187, u188, u189, u190, u191, u192, u193, u194, u195, u196, u197, u198, u199, u200, u201, u202, u203, u204, u205, u206, u207, u208, u209, u210, u211, u212, u213, u214, u215, u216, u217, u218, u219, u220, u221, u222, u223, u224, u225, u226, u227, u228, u229, u230, u231, u232, u233, u234, u235, u236, u237, u238, u239, u240, u241, u242, u243, u244, u245, u246, u247, u248, u249, u250, u251, u252, u253, u254, u255, u256, u257, u258, u259, u260, u261, u262, u263, u264, u265, u266, u267, u268, u269, u270, u271, u272, u273, u274, u275, u276, u277, u278, u279, u280, u281, u282, u283, u284, u285, u286, u287, u288, u289, u290, u291], []⟩ wx := by
  conv => arg 2; whnf
  let Q' : Exit → Act → World → Prop := (bodyPost Yba.prog Yba.f4 fun e w' => e = .returned (.bool true) ∧ Below w.heap.size w w')
  show Code.wp Yba.prog _ Q' _ _
  refine seq_cut fun J' K hJ hK => ?_
  have hn1 := hB.n1
  obtain ⟨C, hC0, hC⟩ := make98 J.n (by omega) wx
  have hz := S.sz
  have HH := hide (show _ ∧ _ ∧ _ ∧ _ ∧ _ from ⟨hB, hbel, E, hC0, S⟩)
  have hs := hbel.size
  clear hB hbel E hC0 S
  go_wp2_with (at_make; refine wpList_make_eq rfl 98 _ _ rfl _ hC ?_)
  refine Met.intro (hJ.out _ _ ?_)
  exact tailC7 J A w G _ _ _ _ _ _ _ _ _ _ _ _ _ _ _ _ _ _ _ _ _ _ _ _ _ _ _ _ _ _ _ _ _ _ _ _ _ _ _ _ _ _ _ _ _ _ _ _ _ _ _ _ _ _ _ _ _ _ _ _ _ _ _ _ _ _ _ _ _ _ _ _ _ _ _ _ _ _ _ _ _ _ _ _ _ _ _ _ _ _ _ _ _ _ _ _ _ _ _ _ _ _ _ _ _ _ _ _ _ _ _ _ _ _ _ _ _ _ _ _ _ _ _ _ _ _ _ _ _ _ _ _ _ _ _ _ _ _ _ _ _ _ _ _ _ _ _ _ _ _ _ _ _ _ _ _ _ _ _ _ _ _ _ _ _ _ _ _ _ _ _ _ _ _ _ _ _ _ _ _ _ _ _ _ _ _ _ _ _ _ _ _ _ _ _ _ _ _ _ _ _ _ _ _ _ _ _ _ _ _ _ _ _ _ _ _ _ _ _ _ _ _ _ _ _ _ _ _ _ _ _ _ _ _ _ _ _ _ _ _ _ _ _ _ _ _ _ _ _ _ _ _ _ _ _ _ _ _ _ _ _ _ _ _ _ _ _ _ _ _ _ _ _ _ _ _ _ _ _ _ _ _ _ _ _ _ _ _ _ _ _ HH.out.2.2.1 HH.out.1 hG (HH.out.2.2.2.2.bj HH.out.2.2.2.1) (HH.out.2.1.alloc hs _)

set_option maxRecDepth 100000 in
set_option maxHeartbeats 2000000 in
theorem tailC5 (J : JIn) (A : JAd) (w : World) (G : Nat) (u1 u2 u3 u4 u5 u6 u9 u10 u11 u12 u13 u14 u15 u16 u17 u18 u19 u20 u21 u22 u23 u24 u25 u26 u27 u28 u29 u30 u31 u32 u33 u34 u35 u36 u37 u38 u39 u40 u41 u42 u43 u44 u45 u46 u47 u48 u49 u50 u51 u52 u53 u54 u55 u56 u57 u58 u59 u60 u61 u62 u63 u64 u65 u66 u67 u68 u69 u70 u71 u72 u73 u74 u75 u76 u77 u78 u79 u80 u81 u82 u83 u84 u85 u86 u87 u88 u89 u90 u91 u92 u93 u94 u95 u96 u97 u98 u99 u100 u101 u102 u103 u104 u105 u106 u107 u108 u109 u110 u111 u112 u113 u114 u115 u116 u117 u118 u119 u120 u121 u122 u123 u124 u125 u126 u127 u128 u129 u130 u131 u132 u133 u134 u135 u136 u137 u138 u139 u140 u141 u142 u143 u144 u145 u146 u147 u148 u149 u150 u151 u152 u153 u154 u155 u156 u157 u158 u159 u160 u161 u162 u163 u164 u165 u166 u167 u168 u169 u170 u171 u172 u173 u174 u175 u176 u177 u178 u179 u180 u181 u182 u183 u184 u185 u186 u187 u188 u189 u190 u191 u192 u193 u194 u195 u196 u197 u198 u199 u200 u201 u202 u203 u204 u205 u206 u207 u208 u209 u210 u211 u212 u213 u214 u215 u216 u217 u218 u219 u220 u221 u222 u223 u224 u225 u226 u227 u228 u229 u230 u231 u232 u233 u234 u235 u236 u237 u238 u239 u240 u241 u242 u243 u244 u245 u246 u247 u248 u249 u250 u251 u252 u253 u254 u255 u256 u257 u258 u259 u260 u261 u262 u263 u264 u265 u266 u267 u268 u269 u270 u271 u272 u273 u274 u275 u276 u277 u278 u279 u280 u281 u282 u283 u284 u285 u286 u287 u288 u289 u290 u291 : Value) (wx : World) (E : EnvJ J A w) (hB : Bnd J) (hG : w.heap.size ≤ G) (hbel : Below w.heap.size w wx) (S : B5 J G wx) :
    Code.wp Yba.prog ((Yba.f4.body.bind (dropS 5)).getD .skip) (bodyPost Yba.prog Yba.f4 fun e w' => e = .returned (.bool true) ∧ Below w.heap.size w w') ⟨#[.slice A.a0 J.n A.cap, u1, u2, u3, u4, u5, u6, .int .i64 J.n, .slice (some ⟨G, 0, none⟩) J.n J.n, u9, u10, u11, u12, u13, u14, u15, u16, u17, u18, u19, u20, u21, u22, u23, u24, u25, u26, u27, u28, u29, u30, u31, u32, u33, u34, u35, u36, u37, u38, u39, u40, u41, u42, u43, u44, u45, u46, u47, u48, u49, u50, u51, u52, u53, u54, u55, u56, u57, u58, u59, u60, u61, u62, u63, u64, u65, u66, u67, u68, u69, u70, u71, u72, u73, u74, u75, u76, u77, u78, u79, u80, u81, u82, u83, u84, u85, u86, u87, u88, u89, u90, u91, u92, u93, u94, u95, u96, u97, u98, u99, u100, u101, u102, u103, u104, u105, u106, u107, u108, u109, u110, u111, u112, u113, u114, u115, u116, u117, u118, u119, u120, u121, u122, u123, u124, u125, u126, u127, u128, u129, u130, u131, u132, u133, u134, u135, u136, u137, u138, u139, u140, u141, u142, u143, u144, u145, u146, u147, u148, u149, u150, u151, u152, u153, u154, u155, u156, u157, u158, u159, u160, u161, u162, u163, u164, u165, u166, u167, u168, u169, u170, u171, u172, u173, u174, u175, u176, u177, u178, u179, u180, u181, u182, u183, u184, u185, u186, u187, u188, u189, u190, u191, u192, u193, u194, u195, u196, u197, u198, u199, u200, u201, u202, u203, u204, u205, u206, u207, u208, u209, u210, u211, u212, u213, u214, u215, u216, u217, u218, u219, u220, u221, u222, u223, u224, u225, u226, u227, u228, u229, u230, u231, u232, u233, u234, u235, u236, u237, u238, u239, u240, u241, u242, u243, u244, u245, u246, u247, u248, u249, u250, u251, u252, u253, u254, u255, u256, u257, u258, u259, u260, u261, u262, u263, u264, u265, u266, u267, u268, u269, u270, u271, u272, u273, u274, u275, u276, u277, u278, u279, u280, u281, u282, u283, u284, u285, u286, u287, u288, u289, u290, u291], []⟩ wx := by
  conv => arg 2; whnf
  let Q' : Exit → Act → World → Prop := (bodyPost Yba.prog Yba.f4 fun e w' => e = .returned (.bool true) ∧ Below w.heap.size w w')
  show Code.wp Yba.prog _ Q' _ _
  refine seq_cut fun J' K hJ hK => ?_
  have hn1 := hB.n1
  obtain ⟨C, hC1, hC0, hC⟩ := make23 J.n (by omega) wx
  have hz := S.sz
  have HH := hide (show _ ∧ _ ∧ _ ∧ _ ∧ _ from ⟨hB, hbel, E, hC0, S⟩)
  have hs := hbel.size
  clear hB hbel E hC0 hC1 S
  go_wp2_with (at_make; refine wpList_make_eq rfl 23 _ _ rfl _ hC ?_)
  refine Met.intro (hJ.out _ _ ?_)
  exact tailC6 J A w G _ _ _ _ _ _ _ _ _ _ _ _ _ _ _ _ _ _ _ _ _ _ _ _ _ _ _ _ _ _ _ _ _ _ _ _ _ _ _ _ _ _ _ _ _ _ _ _ _ _ _ _ _ _ _ _ _ _ _ _ _ _ _ _ _ _ _ _ _ _ _ _ _ _ _ _ _ _ _ _ _ _ _ _ _ _ _ _ _ _ _ _ _ _ _ _ _ _ _ _ _ _ _ _ _ _ _ _ _ _ _ _ _ _ _ _ _ _ _ _ _ _ _ _ _ _ _ _ _ _ _ _ _ _ _ _ _ _ _ _ _ _ _ _ _ _ _ _ _ _ _ _ _ _ _ _ _ _ _ _ _ _ _ _ _ _ _ _ _ _ _ _ _ _ _ _ _ _ _ _ _ _ _ _ _ _ _ _ _ _ _ _ _ _ _ _ _ _ _ _ _ _ _ _ _ _ _ _ _ _ _ _ _ _ _ _ _ _ _ _ _ _ _ _ _ _ _ _ _ _ _ _ _ _ _ _ _ _ _ _ _ _ _ _ _ _ _ _ _ _ _ _ _ _ _ _ _ _ _ _ _ _ _ _ _ _ _ _ _ _ _ _ _ _ _ _ _ _ _ _ _ _ _ _ _ _ _ _ _ HH.out.2.2.1 HH.out.1 hG (HH.out.2.1.alloc hs _) (HH.out.2.2.2.2.b6 HH.out.2.2.2.1)

set_option maxRecDepth 100000 in
set_option maxHeartbeats 2000000 in
theorem tailC4 (J : JIn) (A : JAd) (w : World)  (u1 u2 u3 u4 u5 u6 u8 u9 u10 u11 u12 u13 u14 u15 u16 u17 u18 u19 u20 u21 u22 u23 u24 u25 u26 u27 u28 u29 u30 u31 u32 u33 u34 u35 u36 u37 u38 u39 u40 u41 u42 u43 u44 u45 u46 u47 u48 u49 u50 u51 u52 u53 u54 u55 u56 u57 u58 u59 u60 u61 u62 u63 u64 u65 u66 u67 u68 u69 u70 u71 u72 u73 u74 u75 u76 u77 u78 u79 u80 u81 u82 u83 u84 u85 u86 u87 u88 u89 u90 u91 u92 u93 u94 u95 u96 u97 u98 u99 u100 u101 u102 u103 u104 u105 u106 u107 u108 u109 u110 u111 u112 u113 u114 u115 u116 u117 u118 u119 u120 u121 u122 u123 u124 u125 u126 u127 u128 u129 u130 u131 u132 u133 u134 u135 u136 u137 u138 u139 u140 u141 u142 u143 u144 u145 u146 u147 u148 u149 u150 u151 u152 u153 u154 u155 u156 u157 u158 u159 u160 u161 u162 u163 u164 u165 u166 u167 u168 u169 u170 u171 u172 u173 u174 u175 u176 u177 u178 u179 u180 u181 u182 u183 u184 u185 u186 u187 u188 u189 u190 u191 u192 u193 u194 u195 u196 u197 u198 u199 u200 u201 u202 u203 u204 u205 u206 u207 u208 u209 u210 u211 u212 u213 u214 u215 u216 u217 u218 u219 u220 u221 u222 u223 u224 u225 u226 u227 u228 u229 u230 u231 u232 u233 u234 u235 u236 u237 u238 u239 u240 u241 u242 u243 u244 u245 u246 u247 u248 u249 u250 u251 u252 u253 u254 u255 u256 u257 u258 u259 u260 u261 u262 u263 u264 u265 u266 u267 u268 u269 u270 u271 u272 u273 u274 u275 u276 u277 u278 u279 u280 u281 u282 u283 u284 u285 u286 u287 u288 u289 u290 u291 : Value) (wx : World) (E : EnvJ J A w) (hB : Bnd J) (hb : Below w.heap.size w wx) :
    Code.wp Yba.prog ((Yba.f4.body.bind (dropS 4)).getD .skip) (bodyPost Yba.prog Yba.f4 fun e w' => e = .returned (.bool true) ∧ Below w.heap.size w w') ⟨#[.slice A.a0 J.n A.cap, u1, u2, u3, u4, u5, u6, .int .i64 J.n, u8, u9, u10, u11, u12, u13, u14, u15, u16, u17, u18, u19, u20, u21, u22, u23, u24, u25, u26, u27, u28, u29, u30, u31, u32, u33, u34, u35, u36, u37, u38, u39, u40, u41, u42, u43, u44, u45, u46, u47, u48, u49, u50, u51, u52, u53, u54, u55, u56, u57, u58, u59, u60, u61, u62, u63, u64, u65, u66, u67, u68, u69, u70, u71, u72, u73, u74, u75, u76, u77, u78, u79, u80, u81, u82, u83, u84, u85, u86, u87, u88, u89, u90, u91, u92, u93, u94, u95, u96, u97, u98, u99, u100, u101, u102, u103, u104, u105, u106, u107, u108, u109, u110, u111, u112, u113, u114, u115, u116, u117, u118, u119, u120, u121, u122, u123, u124, u125, u126, u127, u128, u129, u130, u131, u132, u133, u134, u135, u136, u137, u138, u139, u140, u141, u142, u143, u144, u145, u146, u147, u148, u149, u150, u151, u152, u153, u154, u155, u156, u157, u158, u159, u160, u161, u162, u163, u164, u165, u166, u167, u168, u169, u170, u171, u172, u173, u174, u175, u176, u177, u178, u179, u180, u181, u182, u183, u184, u185, u186, u187, u188, u189, u190, u191, u192, u193, u194, u195, u196, u197, u198, u199, u200, u201, u202, u203, u204, u205, u206, u207, u208, u209, u210, u211, u212, u213, u214, u215, u216, u217, u218, u219, u220, u221, u222, u223, u224, u225, u226, u227, u228, u229, u230, u231, u232, u233, u234, u235, u236, u237, u238, u239, u240, u241, u242, u243, u244, u245, u246, u247, u248, u249, u250, u251, u252, u253, u254, u255, u256, u257, u258, u259, u260, u261, u262, u263, u264, u265, u266, u267, u268, u269, u270, u271, u272, u273, u274, u275, u276, u277, u278, u279, u280, u281, u282, u283, u284, u285, u286, u287, u288, u289, u290, u291], []⟩ wx := by
  conv => arg 2; whnf
  let Q' : Exit → Act → World → Prop := (bodyPost Yba.prog Yba.f4 fun e w' => e = .returned (.bool true) ∧ Below w.heap.size w w')
  show Code.wp Yba.prog _ Q' _ _
  refine seq_cut fun J' K hJ hK => ?_
  have hn1 := hB.n1
  obtain ⟨C, hC0, hC⟩ := make97 J.n (by omega) wx
  have HH := hide (show _ ∧ _ ∧ _ ∧ _ from ⟨hB, hb, E, hC0⟩)
  have hs := hb.size
  clear hB hb E hC0
  go_wp2_with (at_make; refine wpList_make_eq rfl 97 _ _ rfl _ hC ?_)
  refine Met.intro (hJ.out _ _ ?_)
  have hn := newBlock wx (.cells C 106)
  refine tailC5 J A w wx.heap.size _ _ _ _ _ _ _ _ _ _ _ _ _ _ _ _ _ _ _ _ _ _ _ _ _ _ _ _ _ _ _ _ _ _ _ _ _ _ _ _ _ _ _ _ _ _ _ _ _ _ _ _ _ _ _ _ _ _ _ _ _ _ _ _ _ _ _ _ _ _ _ _ _ _ _ _ _ _ _ _ _ _ _ _ _ _ _ _ _ _ _ _ _ _ _ _ _ _ _ _ _ _ _ _ _ _ _ _ _ _ _ _ _ _ _ _ _ _ _ _ _ _ _ _ _ _ _ _ _ _ _ _ _ _ _ _ _ _ _ _ _ _ _ _ _ _ _ _ _ _ _ _ _ _ _ _ _ _ _ _ _ _ _ _ _ _ _ _ _ _ _ _ _ _ _ _ _ _ _ _ _ _ _ _ _ _ _ _ _ _ _ _ _ _ _ _ _ _ _ _ _ _ _ _ _ _ _ _ _ _ _ _ _ _ _ _ _ _ _ _ _ _ _ _ _ _ _ _ _ _ _ _ _ _ _ _ _ _ _ _ _ _ _ _ _ _ _ _ _ _ _ _ _ _ _ _ _ _ _ _ _ _ _ _ _ _ _ _ _ _ _ _ _ _ _ _ _ _ _ _ _ _ _ _ _ _ _ _ _ _ HH.out.2.2.1 HH.out.1 hs (HH.out.2.1.alloc hs _) ⟨fun s hs j hj => ?_, frozen_at hn, by simp⟩
  obtain ⟨u, hu⟩ := HH.out.2.2.2 s hs j hj
  exact ⟨u, (cells_at hn _).trans hu⟩

set_option maxRecDepth 100000 in
set_option maxHeartbeats 2000000 in
theorem tailC3 (J : JIn) (A : JAd) (w : World)  (u1 u2 u3 u4 u5 u6 u7 u8 u9 u10 u11 u12 u13 u14 u15 u16 u17 u18 u19 u20 u21 u22 u23 u24 u25 u26 u27 u28 u29 u30 u31 u32 u33 u34 u35 u36 u37 u38 u39 u40 u41 u42 u43 u44 u45 u46 u47 u48 u49 u50 u51 u52 u53 u54 u55 u56 u57 u58 u59 u60 u61 u62 u63 u64 u65 u66 u67 u68 u69 u70 u71 u72 u73 u74 u75 u76 u77 u78 u79 u80 u81 u82 u83 u84 u85 u86 u87 u88 u89 u90 u91 u92 u93 u94 u95 u96 u97 u98 u99 u100 u101 u102 u103 u104 u105 u106 u107 u108 u109 u110 u111 u112 u113 u114 u115 u116 u117 u118 u119 u120 u121 u122 u123 u124 u125 u126 u127 u128 u129 u130 u131 u132 u133 u134 u135 u136 u137 u138 u139 u140 u141 u142 u143 u144 u145 u146 u147 u148 u149 u150 u151 u152 u153 u154 u155 u156 u157 u158 u159 u160 u161 u162 u163 u164 u165 u166 u167 u168 u169 u170 u171 u172 u173 u174 u175 u176 u177 u178 u179 u180 u181 u182 u183 u184 u185 u186 u187 u188 u189 u190 u191 u192 u193 u194 u195 u196 u197 u198 u199 u200 u201 u202 u203 u204 u205 u206 u207 u208 u209 u210 u211 u212 u213 u214 u215 u216 u217 u218 u219 u220 u221 u222 u223 u224 u225 u226 u227 u228 u229 u230 u231 u232 u233 u234 u235 u236 u237 u238 u239 u240 u241 u242 u243 u244 u245 u246 u247 u248 u249 u250 u251 u252 u253 u254 u255 u256 u257 u258 u259 u260 u261 u262 u263 u264 u265 u266 u267 u268 u269 u270 u271 u272 u273 u274 u275 u276 u277 u278 u279 u280 u281 u282 u283 u284 u285 u286 u287 u288 u289 u290 u291 : Value) (wx : World) (E : EnvJ J A w) (hB : Bnd J) (hb : Below w.heap.size w wx) :
    Code.wp Yba.prog ((Yba.f4.body.bind (dropS 3)).getD .skip) (bodyPost Yba.prog Yba.f4 fun e w' => e = .returned (.bool true) ∧ Below w.heap.size w w') ⟨#[.slice A.a0 J.n A.cap, u1, u2, u3, u4, u5, u6, u7, u8, u9, u10, u11, u12, u13, u14, u15, u16, u17, u18, u19, u20, u21, u22, u23, u24, u25, u26, u27, u28, u29, u30, u31, u32, u33, u34, u35, u36, u37, u38, u39, u40, u41, u42, u43, u44, u45, u46, u47, u48, u49, u50, u51, u52, u53, u54, u55, u56, u57, u58, u59, u60, u61, u62, u63, u64, u65, u66, u67, u68, u69, u70, u71, u72, u73, u74, u75, u76, u77, u78, u79, u80, u81, u82, u83, u84, u85, u86, u87, u88, u89, u90, u91, u92, u93, u94, u95, u96, u97, u98, u99, u100, u101, u102, u103, u104, u105, u106, u107, u108, u109, u110, u111, u112, u113, u114, u115, u116, u117, u118, u119, u120, u121, u122, u123, u124, u125, u126, u127, u128, u129, u130, u131, u132, u133, u134, u135, u136, u137, u138, u139, u140, u141, u142, u143, u144, u145, u146, u147, u148, u149, u150, u151, u152, u153, u154, u155, u156, u157, u158, u159, u160, u161, u162, u163, u164, u165, u166, u167, u168, u169, u170, u171, u172, u173, u174, u175, u176, u177, u178, u179, u180, u181, u182, u183, u184, u185, u186, u187, u188, u189, u190, u191, u192, u193, u194, u195, u196, u197, u198, u199, u200, u201, u202, u203, u204, u205, u206, u207, u208, u209, u210, u211, u212, u213, u214, u215, u216, u217, u218, u219, u220, u221, u222, u223, u224, u225, u226, u227, u228, u229, u230, u231, u232, u233, u234, u235, u236, u237, u238, u239, u240, u241, u242, u243, u244, u245, u246, u247, u248, u249, u250, u251, u252, u253, u254, u255, u256, u257, u258, u259, u260, u261, u262, u263, u264, u265, u266, u267, u268, u269, u270, u271, u272, u273, u274, u275, u276, u277, u278, u279, u280, u281, u282, u283, u284, u285, u286, u287, u288, u289, u290, u291], []⟩ wx := by
  conv => arg 2; whnf
  let Q' : Exit → Act → World → Prop := (bodyPost Yba.prog Yba.f4 fun e w' => e = .returned (.bool true) ∧ Below w.heap.size w w')
  show Code.wp Yba.prog _ Q' _ _
  refine seq_cut fun J' K hJ hK => ?_
  have HH := hide (show _ ∧ _ ∧ _ from ⟨hB, hb, E⟩)
  clear hB hb E
  go_wp2_with fail
  refine Met.intro (hJ.out _ _ ?_)
  exact tailC4 J A w _ _ _ _ _ _ _ _ _ _ _ _ _ _ _ _ _ _ _ _ _ _ _ _ _ _ _ _ _ _ _ _ _ _ _ _ _ _ _ _ _ _ _ _ _ _ _ _ _ _ _ _ _ _ _ _ _ _ _ _ _ _ _ _ _ _ _ _ _ _ _ _ _ _ _ _ _ _ _ _ _ _ _ _ _ _ _ _ _ _ _ _ _ _ _ _ _ _ _ _ _ _ _ _ _ _ _ _ _ _ _ _ _ _ _ _ _ _ _ _ _ _ _ _ _ _ _ _ _ _ _ _ _ _ _ _ _ _ _ _ _ _ _ _ _ _ _ _ _ _ _ _ _ _ _ _ _ _ _ _ _ _ _ _ _ _ _ _ _ _ _ _ _ _ _ _ _ _ _ _ _ _ _ _ _ _ _ _ _ _ _ _ _ _ _ _ _ _ _ _ _ _ _ _ _ _ _ _ _ _ _ _ _ _ _ _ _ _ _ _ _ _ _ _ _ _ _ _ _ _ _ _ _ _ _ _ _ _ _ _ _ _ _ _ _ _ _ _ _ _ _ _ _ _ _ _ _ _ _ _ _ _ _ _ _ _ _ _ _ _ _ _ _ _ _ _ _ _ _ _ _ _ _ _ _ _ _ _ _ _ wx HH.out.2.2 HH.out.1 HH.out.2.1

set_option maxRecDepth 100000 in
set_option maxHeartbeats 2000000 in
theorem greedy_any (J : JIn) (A : JAd) (w : World) (E : EnvJ J A w) :
    Calls Yba.prog 4 #[.slice A.a0 J.n A.cap] w fun e w' => e = .returned (.bool true) ∧ Below w.heap.size w w' := by
  by_cases hn : 300 < J.n
  · go_enter Yba.func4, Yba.ntmps4
    go_wp2_with fail
    go_ret
    exact ⟨rfl, Below.refl _ _⟩
  have hn' : J.n ≤ 300 := by omega
  clear hn
  go_enter Yba.func4, Yba.ntmps4
  refine seq_cut fun J' K hJ hK => ?_
  go_wp2_with fail
  refine Met.intro (hJ.out _ _ ?_)
  clear hJ
  refine seq_cut fun J' K hJ hK => ?_
  go_wp2_with fail
  refine Met.intro (hJ.out _ _ ?_)
  clear hJ
  refine seq_cut fun J' K hJ hK => ?_
  have HE := hide E
  clear E
  go_wp2_with fail
  go_loopw [42] (fun iv wr => ∃ t : Nat, t ≤ J.n ∧ iv = .int .i64 t ∧ Below w.heap.size w wr ∧ ∀ s, s < t → J.bn s ≤ 300 ∧ ∀ k, k < J.bn s → J.rn s k ≤ 300) (fun iv _ => J.n - (intOf iv).toNat)
  case atStart => exact ⟨0, Nat.zero_le _, rfl, Below.refl _ _, fun s hs => by omega⟩
  case round =>
    obtain ⟨t, ht, rfl, L, hs⟩ := hrel
    have HS := hide (show _ ∧ _ from ⟨L, hs⟩)
    clear hs
    by_cases hlt : t < J.n
    · have E2 := HE.out.next L
      have hadr : A.a0 = some ⟨A.ib, A.io, none⟩ := by
        rcases HE.out.adr with h | h
        · omega
        · exact h
      have k0 := E2.c0 t hlt
      have k1 := E2.c1 t hlt
      have k2 := E2.c2 t hlt
      have hwr := L.size
      have HA := hide hadr
      rw [hadr]
      clear E2 L hadr
      by_cases hb : 300 < J.bn t
      · go_wp2_with fail
        go_ret
        exact ⟨rfl, HS.out.1.alloc hwr _⟩
      · have hbt : J.bn t ≤ 300 := by omega
        clear hb
        go_wp2_with fail
        have LW := hide (HS.out.1.alloc hwr (.cells #[.bool (J.core t), .slice (A.ba t) (J.bn t) (A.bc t), .int .i8 (J.pi t)] 95))
        generalize hww : wr.alloc (.cells #[.bool (J.core t), .slice (A.ba t) (J.bn t) (A.bc t), .int .i8 (J.pi t)] 95) = ww at *
        clear hww k0 k1 k2
        go_loopw [53] (fun iv w2 => ∃ k : Nat, k ≤ J.bn t ∧ iv = .int .i64 k ∧ w2 = ww ∧ ∀ q, q < k → J.rn t q ≤ 300) (fun iv _ => J.bn t - (intOf iv).toNat)
        case atStart => exact ⟨0, Nat.zero_le _, rfl, rfl, fun q hq => by omega⟩
        case round =>
          obtain ⟨k, hk, rfl, rfl, hq⟩ := hrel
          have HQ := hide hq
          clear hq
          by_cases hkl : k < J.bn t
          · have E3 := HE.out.next LW.out
            obtain ⟨b, o, hba, hcs⟩ : ∃ b o, A.ba t = some ⟨b, o, none⟩ ∧ ∀ k, k < J.bn t → _ = some (Value.slice (A.ra t k) (J.rn t k) (A.rc t k)) := by
              rcases E3.bid t hlt with h | h
              · omega
              · exact h
            have cb := hcs k hkl
            have HB := hide hba
            rw [hba]
            clear hcs E3 hba
            by_cases hr : 300 < J.rn t k
            · go_wp2_with fail
              go_ret
              exact ⟨rfl, LW.out⟩
            · have hrt : J.rn t k ≤ 300 := by omega
              clear hr
              go_wp2_with fail
              case roundEnd =>
                refine ⟨⟨k + 1, by omega, by simp, trivial, fun q hq => ?_⟩, by simp [intOf]; omega⟩
                rcases Nat.lt_or_ge q k with h | h
                · exact HQ.out q h
                · have : q = k := by omega
                  subst this; exact hrt
          · have hke : k = J.bn t := by omega
            subst hke
            go_wp2_with fail
            case roundEnd =>
              refine ⟨⟨t + 1, by omega, by simp, LW.out, fun s hs => ?_⟩, by simp [intOf]; omega⟩
              rcases Nat.lt_or_ge s t with h | h
              · exact HS.out.2 s h
              · have : s = t := by omega
                subst this; exact ⟨hbt, HQ.out⟩
    · have hte : t = J.n := by omega
      subst hte
      clear L
      go_wp2_with fail
      refine Met.intro (hJ.out _ _ ?_)
      exact tailC3 J A w _ _ _ _ _ _ _ _ _ _ _ _ _ _ _ _ _ _ _ _ _ _ _ _ _ _ _ _ _ _ _ _ _ _ _ _ _ _ _ _ _ _ _ _ _ _ _ _ _ _ _ _ _ _ _ _ _ _ _ _ _ _ _ _ _ _ _ _ _ _ _ _ _ _ _ _ _ _ _ _ _ _ _ _ _ _ _ _ _ _ _ _ _ _ _ _ _ _ _ _ _ _ _ _ _ _ _ _ _ _ _ _ _ _ _ _ _ _ _ _ _ _ _ _ _ _ _ _ _ _ _ _ _ _ _ _ _ _ _ _ _ _ _ _ _ _ _ _ _ _ _ _ _ _ _ _ _ _ _ _ _ _ _ _ _ _ _ _ _ _ _ _ _ _ _ _ _ _ _ _ _ _ _ _ _ _ _ _ _ _ _ _ _ _ _ _ _ _ _ _ _ _ _ _ _ _ _ _ _ _ _ _ _ _ _ _ _ _ _ _ _ _ _ _ _ _ _ _ _ _ _ _ _ _ _ _ _ _ _ _ _ _ _ _ _ _ _ _ _ _ _ _ _ _ _ _ _ _ _ _ _ _ _ _ _ _ _ _ _ _ _ _ _ _ _ _ _ _ _ _ _ _ _ _ _ _ _ _ _ _ _ wr HE.out ⟨hn', fun t ht => (HS.out.2 t ht).1, fun t ht => (HS.out.2 t ht).2⟩ HS.out.1
end Go.Proofs.Ybulkbfpk
