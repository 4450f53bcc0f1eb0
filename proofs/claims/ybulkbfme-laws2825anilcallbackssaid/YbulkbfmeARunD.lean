import Derived.Test.YbulkbfmeARunE
namespace Go.Proofs.Ybulkbfme
open Go.RowKit
set_option linter.unusedSimpArgs false
set_option linter.unusedVariables false

theorem five_new (w : World) (v0 v1 v2 v3 v4 : Value) (t : TypeId) : ∀ j u, [v0, v1, v2, v3, v4][j]? = some u → (w.alloc (.cells #[v0, v1, v2, v3, v4] t)).cell? ((⟨w.heap.size, 0, none⟩ : Addr).add j) = some u := by
  intro j u hj
  match j, hj with
  | 0, hj => simp at hj; subst hj; simp [Addr.add]
  | 1, hj => simp at hj; subst hj; simp [Addr.add]
  | 2, hj => simp at hj; subst hj; simp [Addr.add]
  | 3, hj => simp at hj; subst hj; simp [Addr.add]
  | 4, hj => simp at hj; subst hj; simp [Addr.add]
theorem five_one (v0 v1 v2 v3 v4 : Value) (h0 : v0.oneCell' = true) (h1 : v1.oneCell' = true) (h2 : v2.oneCell' = true) (h3 : v3.oneCell' = true) (h4 : v4.oneCell' = true) : ∀ u ∈ [v0, v1, v2, v3, v4], u.oneCell' = true := by
  intro u hu
  simp at hu
  rcases hu with rfl | rfl | rfl | rfl | rfl <;> assumption

set_option maxRecDepth 100000 in
set_option maxHeartbeats 2000000 in
theorem tail21 (ds dl : Bool) (or nr i tO tN lO lN pO pN kn ls ch rel W E : Int) (w : World) (R : Nat) (vs vl : Value)  (u0 u1 u2 u4 u5 u6 u7 u8 u9 u10 u12 u14 u15 u16 u17 u20 u21 u22 u23 u24 u25 u26 u27 u28 u29 u30 u31 u32 u33 u34 u35 u36 u37 u38 u39 u40 u41 u42 u43 u44 u45 u46 u47 u48 u49 u50 u51 u52 u53 u54 u55 u56 u57 u58 u59 u60 u61 u62 u63 u64 u65 u66 u67 u68 u69 u70 u71 u72 u73 u74 u75 u76 u77 u78 u79 u80 u81 u82 u83 u84 u85 u86 u87 u88 u89 u90 u91 u92 u93 u94 u95 u96 u97 u98 u99 u100 u101 u102 u103 u104 u105 u106 u107 u108 u109 u110 u111 u112 u113 u114 u115 u116 u117 u118 u119 u120 u121 u122 u123 u124 u125 u126 u127 u128 u129 u130 u131 u132 u133 u134 u135 u136 u137 u138 u139 u140 u141 u142 u143 u144 u145 u146 u147 u148 u149 u150 u151 u152 u153 u154 u155 u156 u157 u158 u159 u160 u161 u162 u163 u164 u165 u166 u167 u168 u169 u170 u171 u172 u173 u174 u175 u176 u177 u178 u179 u180 u181 u182 u183 u184 u185 u186 u187 u188 u189 u190 u191 u192 u193 u194 u195 u196 u197 u198 u199 u200 u201 u202 u203 u204 u205 u206 u207 u208 u209 u210 u211 u212 u213 u214 u215 u216 u217 u218 u219 u220 u221 u222 u223 u224 u225 u226 u227 u228 u229 u230 u231 u232 u233 u234 u235 u236 u237 u238 u239 u240 u241 u242 u243 : Value) (wx : World) (A : Aft ds dl or nr i tO tN lO lN pO pN kn ls ch rel W E w R vs vl wx) (ve : Value) (hve : wx.ownsRow (R + 5) 56 5 ve (leadN dl (endsB (or % 4) tO (nr % 4) tN) (endsB (nr % 4) tN (or % 4) tO)) (leadC dl (endsB (or % 4) tO (nr % 4) tN) (endsB (nr % 4) tN (or % 4) tO) tO tN W E)) (hW0 : 0 ≤ W) (hW1 : W < 1073741824) :
    Code.wp Yba.prog ((Yba.f7.body.bind (dropS 21)).getD .skip) (bodyPost Yba.prog Yba.f7 fun e w' => e = .returned (.bool true) ∧ Below w.heap.size w w') ⟨#[u0, u1, u2, .pointer (some ⟨w.heap.size, 0, none⟩), u4, u5, u6, u7, u8, u9, u10, .pointer (some ⟨R + 1 + 1, 0, none⟩), u12, .pointer (some ⟨R + 1 + 1 + 1 + 1, 0, none⟩), u14, u15, u16, u17, .bool (endsB (nr % 4) tN (or % 4) tO), ve, u20, u21, u22, u23, u24, u25, u26, u27, u28, u29, u30, u31, u32, u33, u34, u35, u36, u37, u38, u39, u40, u41, u42, u43, u44, u45, u46, u47, u48, u49, u50, u51, u52, u53, u54, u55, u56, u57, u58, u59, u60, u61, u62, u63, u64, u65, u66, u67, u68, u69, u70, u71, u72, u73, u74, u75, u76, u77, u78, u79, u80, u81, u82, u83, u84, u85, u86, u87, u88, u89, u90, u91, u92, u93, u94, u95, u96, u97, u98, u99, u100, u101, u102, u103, u104, u105, u106, u107, u108, u109, u110, u111, u112, u113, u114, u115, u116, u117, u118, u119, u120, u121, u122, u123, u124, u125, u126, u127, u128, u129, u130, u131, u132, u133, u134, u135, u136, u137, u138, u139, u140, u141, u142, u143, u144, u145, u146, u147, u148, u149, u150, u151, u152, u153, u154, u155, u156, u157, u158, u159, u160, u161, u162, u163, u164, u165, u166, u167, u168, u169, u170, u171, u172, u173, u174, u175, u176, u177, u178, u179, u180, u181, u182, u183, u184, u185, u186, u187, u188, u189, u190, u191, u192, u193, u194, u195, u196, u197, u198, u199, u200, u201, u202, u203, u204, u205, u206, u207, u208, u209, u210, u211, u212, u213, u214, u215, u216, u217, u218, u219, u220, u221, u222, u223, u224, u225, u226, u227, u228, u229, u230, u231, u232, u233, u234, u235, u236, u237, u238, u239, u240, u241, u242, u243], []⟩ wx := by
  conv => arg 2; whnf
  obtain ⟨ae, ce, hve', hae⟩ := own_form hve
  obtain ⟨al, cl', hvl', hal⟩ := own_form A.ol
  have cl := A.cl
  have HA : Hid (Aft ds dl or nr i tO tN lO lN pO pN kn ls ch rel W E w R vs vl wx) := A
  have HV : Hid (wx.ownsRow (R + 5) 56 5 ve (leadN dl (endsB (or % 4) tO (nr % 4) tN) (endsB (nr % 4) tN (or % 4) tO)) (leadC dl (endsB (or % 4) tO (nr % 4) tN) (endsB (nr % 4) tN (or % 4) tO) tO tN W E)) := hve
  obtain ⟨n, hN⟩ : ∃ n, n = (leadN dl (endsB (or % 4) tO (nr % 4) tN) (endsB (nr % 4) tN (or % 4) tO)) := ⟨_, rfl⟩
  rw [← hN] at hve' hvl'
  rw [hvl'] at cl
  rw [hve']
  have HVE : Hid (ve = .slice ae n ce) := hve'
  clear hae hal A hve hN hve' hvl'
  refine seq_cut fun J K hJ hK => ?_
  go_wp2_with fail
  refine Met.intro (hJ.out _ _ ?_)
  rw [← HVE.out]
  exact tail22 ds dl or nr i tO tN lO lN pO pN kn ls ch rel W E w R vs _ _ _ _ _ _ _ _ _ _ _ _ _ _ _ _ _ _ _ _ _ _ _ _ _ _ _ _ _ _ _ _ _ _ _ _ _ _ _ _ _ _ _ _ _ _ _ _ _ _ _ _ _ _ _ _ _ _ _ _ _ _ _ _ _ _ _ _ _ _ _ _ _ _ _ _ _ _ _ _ _ _ _ _ _ _ _ _ _ _ _ _ _ _ _ _ _ _ _ _ _ _ _ _ _ _ _ _ _ _ _ _ _ _ _ _ _ _ _ _ _ _ _ _ _ _ _ _ _ _ _ _ _ _ _ _ _ _ _ _ _ _ _ _ _ _ _ _ _ _ _ _ _ _ _ _ _ _ _ _ _ _ _ _ _ _ _ _ _ _ _ _ _ _ _ _ _ _ _ _ _ _ _ _ _ _ _ _ _ _ _ _ _ _ _ _ _ _ _ _ _ _ _ _ _ _ _ _ _ _ _ _ _ _ _ _ _ _ _ _ _ _ _ _ _ _ _ _ _ _ _ _ _ _ _ _ _ _ _ _ _ HA.out _ HV.out hW0 hW1

set_option maxRecDepth 100000 in
set_option maxHeartbeats 2000000 in
theorem tail20 (ds dl : Bool) (or nr i tO tN lO lN pO pN kn ls ch rel W E : Int) (w : World) (R : Nat) (vs vl : Value)  (u0 u1 u4 u5 u6 u7 u8 u10 u12 u14 u15 u16 u20 u21 u22 u23 u24 u25 u26 u27 u28 u29 u30 u31 u32 u33 u34 u35 u36 u37 u38 u39 u40 u41 u42 u43 u44 u45 u46 u47 u48 u49 u50 u51 u52 u53 u54 u55 u56 u57 u58 u59 u60 u61 u62 u63 u64 u65 u66 u67 u68 u69 u70 u71 u72 u73 u74 u75 u76 u77 u78 u79 u80 u81 u82 u83 u84 u85 u86 u87 u88 u89 u90 u91 u92 u93 u94 u95 u96 u97 u98 u99 u100 u101 u102 u103 u104 u105 u106 u107 u108 u109 u110 u111 u112 u113 u114 u115 u116 u117 u118 u119 u120 u121 u122 u123 u124 u125 u126 u127 u128 u129 u130 u131 u132 u133 u134 u135 u136 u137 u138 u139 u140 u141 u142 u143 u144 u145 u146 u147 u148 u149 u150 u151 u152 u153 u154 u155 u156 u157 u158 u159 u160 u161 u162 u163 u164 u165 u166 u167 u168 u169 u170 u171 u172 u173 u174 u175 u176 u177 u178 u179 u180 u181 u182 u183 u184 u185 u186 u187 u188 u189 u190 u191 u192 u193 u194 u195 u196 u197 u198 u199 u200 u201 u202 u203 u204 u205 u206 u207 u208 u209 u210 u211 u212 u213 u214 u215 u216 u217 u218 u219 u220 u221 u222 u223 u224 u225 u226 u227 u228 u229 u230 u231 u232 u233 u234 u235 u236 u237 u238 u239 u240 u241 u242 u243 : Value) (wx : World) (A : Aft ds dl or nr i tO tN lO lN pO pN kn ls ch rel W E w R vs vl wx) (hW0 : 0 ≤ W) (hW1 : W < 1073741824) :
    Code.wp Yba.prog ((Yba.f7.body.bind (dropS 20)).getD .skip) (bodyPost Yba.prog Yba.f7 fun e w' => e = .returned (.bool true) ∧ Below w.heap.size w w') ⟨#[u0, u1, .bool dl, .pointer (some ⟨w.heap.size, 0, none⟩), u4, u5, u6, u7, u8, .pointer (some ⟨R, 0, none⟩), u10, .pointer (some ⟨R + 1 + 1, 0, none⟩), u12, .pointer (some ⟨R + 1 + 1 + 1 + 1, 0, none⟩), u14, u15, u16, .bool (endsB (or % 4) tO (nr % 4) tN), .bool (endsB (nr % 4) tN (or % 4) tO), .slice none 0 0, u20, u21, u22, u23, u24, u25, u26, u27, u28, u29, u30, u31, u32, u33, u34, u35, u36, u37, u38, u39, u40, u41, u42, u43, u44, u45, u46, u47, u48, u49, u50, u51, u52, u53, u54, u55, u56, u57, u58, u59, u60, u61, u62, u63, u64, u65, u66, u67, u68, u69, u70, u71, u72, u73, u74, u75, u76, u77, u78, u79, u80, u81, u82, u83, u84, u85, u86, u87, u88, u89, u90, u91, u92, u93, u94, u95, u96, u97, u98, u99, u100, u101, u102, u103, u104, u105, u106, u107, u108, u109, u110, u111, u112, u113, u114, u115, u116, u117, u118, u119, u120, u121, u122, u123, u124, u125, u126, u127, u128, u129, u130, u131, u132, u133, u134, u135, u136, u137, u138, u139, u140, u141, u142, u143, u144, u145, u146, u147, u148, u149, u150, u151, u152, u153, u154, u155, u156, u157, u158, u159, u160, u161, u162, u163, u164, u165, u166, u167, u168, u169, u170, u171, u172, u173, u174, u175, u176, u177, u178, u179, u180, u181, u182, u183, u184, u185, u186, u187, u188, u189, u190, u191, u192, u193, u194, u195, u196, u197, u198, u199, u200, u201, u202, u203, u204, u205, u206, u207, u208, u209, u210, u211, u212, u213, u214, u215, u216, u217, u218, u219, u220, u221, u222, u223, u224, u225, u226, u227, u228, u229, u230, u231, u232, u233, u234, u235, u236, u237, u238, u239, u240, u241, u242, u243], []⟩ wx := by
  conv => arg 2; whnf
  obtain ⟨i0, hi, hz0, hz1, hz2⟩ := info_parts Yba.info56
  have hR := A.hR
  have hbz : R + 5 ≤ wx.heap.size := A.hz
  have iC := cells_at A.bi
  have rC := cells_at A.br
  have HA : Hid (Aft ds dl or nr i tO tN lO lN pO pN kn ls ch rel W E w R vs vl wx) := A
  have HT : Hid (∀ wy ve, Below wx.heap.size wx wy → wy.ownsRow (R + 5) 56 5 ve (leadN dl (endsB (or % 4) tO (nr % 4) tN) (endsB (nr % 4) tN (or % 4) tO)) (leadC dl (endsB (or % 4) tO (nr % 4) tN) (endsB (nr % 4) tN (or % 4) tO) tO tN W E) → ∀ u0 u1 u2 u4 u5 u6 u7 u8 u9 u10 u12 u14 u15 u16 u17 u20 u21 u22 u23 u24 u25 u26 u27 u28 u29 u30 u31 u32 u33 u34 u35 u36 u37 u38 u39 u40 u41 u42 u43 u44 u45 u46 u47 u48 u49 u50 u51 u52 u53 u54 u55 u56 u57 u58 u59 u60 u61 u62 u63 u64 u65 u66 u67 u68 u69 u70 u71 u72 u73 u74 u75 u76 u77 u78 u79 u80 u81 u82 u83 u84 u85 u86 u87 u88 u89 u90 u91 u92 u93 u94 u95 u96 u97 u98 u99 u100 u101 u102 u103 u104 u105 u106 u107 u108 u109 u110 u111 u112 u113 u114 u115 u116 u117 u118 u119 u120 u121 u122 u123 u124 u125 u126 u127 u128 u129 u130 u131 u132 u133 u134 u135 u136 u137 u138 u139 u140 u141 u142 u143 u144 u145 u146 u147 u148 u149 u150 u151 u152 u153 u154 u155 u156 u157 u158 u159 u160 u161 u162 u163 u164 u165 u166 u167 u168 u169 u170 u171 u172 u173 u174 u175 u176 u177 u178 u179 u180 u181 u182 u183 u184 u185 u186 u187 u188 u189 u190 u191 u192 u193 u194 u195 u196 u197 u198 u199 u200 u201 u202 u203 u204 u205 u206 u207 u208 u209 u210 u211 u212 u213 u214 u215 u216 u217 u218 u219 u220 u221 u222 u223 u224 u225 u226 u227 u228 u229 u230 u231 u232 u233 u234 u235 u236 u237 u238 u239 u240 u241 u242 u243 : Value, Code.wp Yba.prog ((Yba.f7.body.bind (dropS 21)).getD .skip) (bodyPost Yba.prog Yba.f7 fun e w' => e = .returned (.bool true) ∧ Below w.heap.size w w') ⟨#[u0, u1, u2, .pointer (some ⟨w.heap.size, 0, none⟩), u4, u5, u6, u7, u8, u9, u10, .pointer (some ⟨R + 1 + 1, 0, none⟩), u12, .pointer (some ⟨R + 1 + 1 + 1 + 1, 0, none⟩), u14, u15, u16, u17, .bool (endsB (nr % 4) tN (or % 4) tO), ve, u20, u21, u22, u23, u24, u25, u26, u27, u28, u29, u30, u31, u32, u33, u34, u35, u36, u37, u38, u39, u40, u41, u42, u43, u44, u45, u46, u47, u48, u49, u50, u51, u52, u53, u54, u55, u56, u57, u58, u59, u60, u61, u62, u63, u64, u65, u66, u67, u68, u69, u70, u71, u72, u73, u74, u75, u76, u77, u78, u79, u80, u81, u82, u83, u84, u85, u86, u87, u88, u89, u90, u91, u92, u93, u94, u95, u96, u97, u98, u99, u100, u101, u102, u103, u104, u105, u106, u107, u108, u109, u110, u111, u112, u113, u114, u115, u116, u117, u118, u119, u120, u121, u122, u123, u124, u125, u126, u127, u128, u129, u130, u131, u132, u133, u134, u135, u136, u137, u138, u139, u140, u141, u142, u143, u144, u145, u146, u147, u148, u149, u150, u151, u152, u153, u154, u155, u156, u157, u158, u159, u160, u161, u162, u163, u164, u165, u166, u167, u168, u169, u170, u171, u172, u173, u174, u175, u176, u177, u178, u179, u180, u181, u182, u183, u184, u185, u186, u187, u188, u189, u190, u191, u192, u193, u194, u195, u196, u197, u198, u199, u200, u201, u202, u203, u204, u205, u206, u207, u208, u209, u210, u211, u212, u213, u214, u215, u216, u217, u218, u219, u220, u221, u222, u223, u224, u225, u226, u227, u228, u229, u230, u231, u232, u233, u234, u235, u236, u237, u238, u239, u240, u241, u242, u243], []⟩ wy) := 
    fun wy ve hb hv u0 u1 u2 u4 u5 u6 u7 u8 u9 u10 u12 u14 u15 u16 u17 u20 u21 u22 u23 u24 u25 u26 u27 u28 u29 u30 u31 u32 u33 u34 u35 u36 u37 u38 u39 u40 u41 u42 u43 u44 u45 u46 u47 u48 u49 u50 u51 u52 u53 u54 u55 u56 u57 u58 u59 u60 u61 u62 u63 u64 u65 u66 u67 u68 u69 u70 u71 u72 u73 u74 u75 u76 u77 u78 u79 u80 u81 u82 u83 u84 u85 u86 u87 u88 u89 u90 u91 u92 u93 u94 u95 u96 u97 u98 u99 u100 u101 u102 u103 u104 u105 u106 u107 u108 u109 u110 u111 u112 u113 u114 u115 u116 u117 u118 u119 u120 u121 u122 u123 u124 u125 u126 u127 u128 u129 u130 u131 u132 u133 u134 u135 u136 u137 u138 u139 u140 u141 u142 u143 u144 u145 u146 u147 u148 u149 u150 u151 u152 u153 u154 u155 u156 u157 u158 u159 u160 u161 u162 u163 u164 u165 u166 u167 u168 u169 u170 u171 u172 u173 u174 u175 u176 u177 u178 u179 u180 u181 u182 u183 u184 u185 u186 u187 u188 u189 u190 u191 u192 u193 u194 u195 u196 u197 u198 u199 u200 u201 u202 u203 u204 u205 u206 u207 u208 u209 u210 u211 u212 u213 u214 u215 u216 u217 u218 u219 u220 u221 u222 u223 u224 u225 u226 u227 u228 u229 u230 u231 u232 u233 u234 u235 u236 u237 u238 u239 u240 u241 u242 u243 => tail21 ds dl or nr i tO tN lO lN pO pN kn ls ch rel W E w R vs vl u0 u1 u2 u4 u5 u6 u7 u8 u9 u10 u12 u14 u15 u16 u17 u20 u21 u22 u23 u24 u25 u26 u27 u28 u29 u30 u31 u32 u33 u34 u35 u36 u37 u38 u39 u40 u41 u42 u43 u44 u45 u46 u47 u48 u49 u50 u51 u52 u53 u54 u55 u56 u57 u58 u59 u60 u61 u62 u63 u64 u65 u66 u67 u68 u69 u70 u71 u72 u73 u74 u75 u76 u77 u78 u79 u80 u81 u82 u83 u84 u85 u86 u87 u88 u89 u90 u91 u92 u93 u94 u95 u96 u97 u98 u99 u100 u101 u102 u103 u104 u105 u106 u107 u108 u109 u110 u111 u112 u113 u114 u115 u116 u117 u118 u119 u120 u121 u122 u123 u124 u125 u126 u127 u128 u129 u130 u131 u132 u133 u134 u135 u136 u137 u138 u139 u140 u141 u142 u143 u144 u145 u146 u147 u148 u149 u150 u151 u152 u153 u154 u155 u156 u157 u158 u159 u160 u161 u162 u163 u164 u165 u166 u167 u168 u169 u170 u171 u172 u173 u174 u175 u176 u177 u178 u179 u180 u181 u182 u183 u184 u185 u186 u187 u188 u189 u190 u191 u192 u193 u194 u195 u196 u197 u198 u199 u200 u201 u202 u203 u204 u205 u206 u207 u208 u209 u210 u211 u212 u213 u214 u215 u216 u217 u218 u219 u220 u221 u222 u223 u224 u225 u226 u227 u228 u229 u230 u231 u232 u233 u234 u235 u236 u237 u238 u239 u240 u241 u242 u243 wy (A.next hb) ve hv hW0 hW1
  clear A
  obtain ⟨eB, heB⟩ : ∃ b, b = (endsB (or % 4) tO (nr % 4) tN) := ⟨_, rfl⟩
  obtain ⟨bB, hbB⟩ : ∃ b, b = (endsB (nr % 4) tN (or % 4) tO) := ⟨_, rfl⟩
  rw [← heB, ← hbB] at HT ⊢
  have HAe : Hid (eB = (endsB (or % 4) tO (nr % 4) tN) ∧ bB = (endsB (nr % 4) tN (or % 4) tO)) := ⟨heB, hbB⟩
  clear heB hbB
  refine seq_cut fun J K hJ hK => ?_
  cases dl
  · cases eB
    · cases bB
      · go_wp2_with fail
        refine Met.intro (hJ.out _ _ ?_)
        exact HT.out _ _ (Below.refl _ _) (World.ownsRow_nil _ _ _ _) _ _ _ _ _ _ _ _ _ _ _ _ _ _ _ _ _ _ _ _ _ _ _ _ _ _ _ _ _ _ _ _ _ _ _ _ _ _ _ _ _ _ _ _ _ _ _ _ _ _ _ _ _ _ _ _ _ _ _ _ _ _ _ _ _ _ _ _ _ _ _ _ _ _ _ _ _ _ _ _ _ _ _ _ _ _ _ _ _ _ _ _ _ _ _ _ _ _ _ _ _ _ _ _ _ _ _ _ _ _ _ _ _ _ _ _ _ _ _ _ _ _ _ _ _ _ _ _ _ _ _ _ _ _ _ _ _ _ _ _ _ _ _ _ _ _ _ _ _ _ _ _ _ _ _ _ _ _ _ _ _ _ _ _ _ _ _ _ _ _ _ _ _ _ _ _ _ _ _ _ _ _ _ _ _ _ _ _ _ _ _ _ _ _ _ _ _ _ _ _ _ _ _ _ _ _ _ _ _ _ _ _ _ _ _ _ _ _ _ _ _ _ _ _ _ _ _ _ _ _ _ _ _ _ _ _ _ _ _
      · go_wp2_with (at_builtin; refine wpList_append_own _ rfl (.tmp 142) (.tmp 146) 54 rfl wx.heap.size 56 i0 _ 5 40 Yba.underlying54 hi hz0 hz1 hz2 rfl (by decide) _ 0 [] rfl ((World.ownsRow_nil wx wx.heap.size 56 5).alloc _) ⟨wx.heap.size, 0, none⟩ 1 1 [.bool true, .int .u64 tN, .int .u64 0, .int .i64 0, .pointer none] rfl rfl ?c1A ?c2A (by unfold maxLen; omega) (by omega) ?c3A ?_)
        case c1A => exact five_new _ _ _ _ _ _ _
        case c2A => exact five_one _ _ _ _ _ (by rfl) (by rfl) (by rfl) (by rfl) (by rfl)
        case c3A => simp
        intro v1 w1 ho1 hg1 _
        have hb1 : Below wx.heap.size wx w1 := ((Below.refl _ _).alloc (Nat.le_refl _) _).grown hg1 (by simp) (fun k hk => by cases hk)
        go_wp2_with fail
        refine Met.intro (hJ.out _ _ ?_)
        exact HT.out _ _ hb1 (own_base ho1 hbz) _ _ _ _ _ _ _ _ _ _ _ _ _ _ _ _ _ _ _ _ _ _ _ _ _ _ _ _ _ _ _ _ _ _ _ _ _ _ _ _ _ _ _ _ _ _ _ _ _ _ _ _ _ _ _ _ _ _ _ _ _ _ _ _ _ _ _ _ _ _ _ _ _ _ _ _ _ _ _ _ _ _ _ _ _ _ _ _ _ _ _ _ _ _ _ _ _ _ _ _ _ _ _ _ _ _ _ _ _ _ _ _ _ _ _ _ _ _ _ _ _ _ _ _ _ _ _ _ _ _ _ _ _ _ _ _ _ _ _ _ _ _ _ _ _ _ _ _ _ _ _ _ _ _ _ _ _ _ _ _ _ _ _ _ _ _ _ _ _ _ _ _ _ _ _ _ _ _ _ _ _ _ _ _ _ _ _ _ _ _ _ _ _ _ _ _ _ _ _ _ _ _ _ _ _ _ _ _ _ _ _ _ _ _ _ _ _ _ _ _ _ _ _ _ _ _ _ _ _ _ _ _ _ _ _ _ _ _ _
    · go_wp2_with (at_builtin; refine wpList_append_own _ rfl (.tmp 134) (.tmp 139) 54 rfl wx.heap.size 56 i0 _ 5 40 Yba.underlying54 hi hz0 hz1 hz2 rfl (by decide) _ 0 [] rfl ((World.ownsRow_nil wx wx.heap.size 56 5).alloc _) ⟨wx.heap.size, 0, none⟩ 1 1 [.bool false, .int .u64 tO, .int .u64 W, .int .i64 E, .pointer none] rfl rfl ?c1B ?c2B (by unfold maxLen; omega) (by omega) ?c3B ?_)
      case c1B => exact five_new _ _ _ _ _ _ _
      case c2B => exact five_one _ _ _ _ _ (by rfl) (by rfl) (by rfl) (by rfl) (by rfl)
      case c3B => simp
      intro v1 w1 ho1 hg1 _
      have hb1 : Below wx.heap.size wx w1 := ((Below.refl _ _).alloc (Nat.le_refl _) _).grown hg1 (by simp) (fun k hk => by cases hk)
      have iC1 : ∀ o, w1.cell? ⟨w.heap.size, o, none⟩ = _ := fun o => (hb1.cell (p := ⟨w.heap.size, o, none⟩) (by show w.heap.size < _; omega)).trans (iC o)
      have hbz1 : R + 5 ≤ w1.heap.size := Nat.le_trans hbz hb1.size
      have hrow : ∀ k, v1.ownBlock = some k → wx.heap.size ≤ k := fun k hk => (ho1.lt k hk).1
      have hbz2 : wx.heap.size ≤ w1.heap.size := hb1.size
      clear iC rC
      cases bB
      · go_wp2_with fail
        refine Met.intro (hJ.out _ _ ?_)
        exact HT.out _ _ hb1 (own_base ho1 hbz) _ _ _ _ _ _ _ _ _ _ _ _ _ _ _ _ _ _ _ _ _ _ _ _ _ _ _ _ _ _ _ _ _ _ _ _ _ _ _ _ _ _ _ _ _ _ _ _ _ _ _ _ _ _ _ _ _ _ _ _ _ _ _ _ _ _ _ _ _ _ _ _ _ _ _ _ _ _ _ _ _ _ _ _ _ _ _ _ _ _ _ _ _ _ _ _ _ _ _ _ _ _ _ _ _ _ _ _ _ _ _ _ _ _ _ _ _ _ _ _ _ _ _ _ _ _ _ _ _ _ _ _ _ _ _ _ _ _ _ _ _ _ _ _ _ _ _ _ _ _ _ _ _ _ _ _ _ _ _ _ _ _ _ _ _ _ _ _ _ _ _ _ _ _ _ _ _ _ _ _ _ _ _ _ _ _ _ _ _ _ _ _ _ _ _ _ _ _ _ _ _ _ _ _ _ _ _ _ _ _ _ _ _ _ _ _ _ _ _ _ _ _ _ _ _ _ _ _ _ _ _ _ _ _ _ _ _ _ _
      · go_wp2_with (at_builtin; refine wpList_append_own _ rfl (.tmp 142) (.tmp 146) 54 rfl wx.heap.size 56 i0 _ 5 40 Yba.underlying54 hi hz0 hz1 hz2 rfl (by decide) _ 1 [.bool false, .int .u64 tO, .int .u64 W, .int .i64 E, .pointer none] rfl (ho1.alloc _) ⟨w1.heap.size, 0, none⟩ 1 1 [.bool true, .int .u64 tN, .int .u64 0, .int .i64 0, .pointer none] rfl rfl ?c1D ?c2D (by unfold maxLen; omega) (by omega) ?c3D ?_)
        case c1D => exact five_new _ _ _ _ _ _ _
        case c2D => exact five_one _ _ _ _ _ (by rfl) (by rfl) (by rfl) (by rfl) (by rfl)
        case c3D => simp; omega
        intro v2 w2 ho2 hg2 _
        have hb2 : Below wx.heap.size wx w2 := (hb1.alloc hb1.size _).grown hg2 (by have := hb1.size; simp; omega) hrow
        go_wp2_with fail
        refine Met.intro (hJ.out _ _ ?_)
        exact HT.out _ _ hb2 (own_base ho2 hbz) _ _ _ _ _ _ _ _ _ _ _ _ _ _ _ _ _ _ _ _ _ _ _ _ _ _ _ _ _ _ _ _ _ _ _ _ _ _ _ _ _ _ _ _ _ _ _ _ _ _ _ _ _ _ _ _ _ _ _ _ _ _ _ _ _ _ _ _ _ _ _ _ _ _ _ _ _ _ _ _ _ _ _ _ _ _ _ _ _ _ _ _ _ _ _ _ _ _ _ _ _ _ _ _ _ _ _ _ _ _ _ _ _ _ _ _ _ _ _ _ _ _ _ _ _ _ _ _ _ _ _ _ _ _ _ _ _ _ _ _ _ _ _ _ _ _ _ _ _ _ _ _ _ _ _ _ _ _ _ _ _ _ _ _ _ _ _ _ _ _ _ _ _ _ _ _ _ _ _ _ _ _ _ _ _ _ _ _ _ _ _ _ _ _ _ _ _ _ _ _ _ _ _ _ _ _ _ _ _ _ _ _ _ _ _ _ _ _ _ _ _ _ _ _ _ _ _ _ _ _ _ _ _ _ _ _ _ _ _
  · go_wp2_with fail
    refine Met.intro (hJ.out _ _ ?_)
    exact HT.out _ _ (Below.refl _ _) (World.ownsRow_nil _ _ _ _) _ _ _ _ _ _ _ _ _ _ _ _ _ _ _ _ _ _ _ _ _ _ _ _ _ _ _ _ _ _ _ _ _ _ _ _ _ _ _ _ _ _ _ _ _ _ _ _ _ _ _ _ _ _ _ _ _ _ _ _ _ _ _ _ _ _ _ _ _ _ _ _ _ _ _ _ _ _ _ _ _ _ _ _ _ _ _ _ _ _ _ _ _ _ _ _ _ _ _ _ _ _ _ _ _ _ _ _ _ _ _ _ _ _ _ _ _ _ _ _ _ _ _ _ _ _ _ _ _ _ _ _ _ _ _ _ _ _ _ _ _ _ _ _ _ _ _ _ _ _ _ _ _ _ _ _ _ _ _ _ _ _ _ _ _ _ _ _ _ _ _ _ _ _ _ _ _ _ _ _ _ _ _ _ _ _ _ _ _ _ _ _ _ _ _ _ _ _ _ _ _ _ _ _ _ _ _ _ _ _ _ _ _ _ _ _ _ _ _ _ _ _ _ _ _ _ _ _ _ _ _ _ _ _ _ _ _ _ _

end Go.Proofs.Ybulkbfme
