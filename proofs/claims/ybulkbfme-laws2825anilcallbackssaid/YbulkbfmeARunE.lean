import Derived.Test.YbulkbfmeARunF
namespace Go.Proofs.Ybulkbfme
open Go.RowKit
set_option linter.unusedSimpArgs false
set_option linter.unusedVariables false

/-- What a told leadership's five cells hold. -/
theorem lead_cells (dl e b : Bool) (tO tN W E : Int) (hW0 : 0 ≤ W) (hW1 : W < 1073741824) : ∀ k, k < leadN dl e b → ∃ (x : Bool) (t W' E' : Int), (leadC dl e b tO tN W E)[k * 5]? = some (.bool x) ∧ (leadC dl e b tO tN W E)[k * 5 + 1]? = some (.int .u64 t) ∧ (leadC dl e b tO tN W E)[k * 5 + 2]? = some (.int .u64 W') ∧
    (leadC dl e b tO tN W E)[k * 5 + 2 + 1]? = some (.int .i64 E') ∧ (leadC dl e b tO tN W E)[k * 5 + 2 + 2]? = some (.pointer none) ∧ 0 ≤ W' ∧ W' < 1073741824 := by
  intro k hk
  cases dl <;> cases e <;> cases b <;> simp [leadN] at hk
  · obtain rfl : k = 0 := by omega
    exact ⟨true, tN, 0, 0, rfl, rfl, rfl, rfl, rfl, by omega, by omega⟩
  · obtain rfl : k = 0 := by omega
    exact ⟨false, tO, W, E, rfl, rfl, rfl, rfl, rfl, hW0, hW1⟩
  · rcases (by omega : k = 0 ∨ k = 1) with rfl | rfl
    · exact ⟨false, tO, W, E, rfl, rfl, rfl, rfl, rfl, hW0, hW1⟩
    · exact ⟨true, tN, 0, 0, rfl, rfl, rfl, rfl, rfl, by omega, by omega⟩
theorem leadN_two (dl e b : Bool) : leadN dl e b ≤ 2 := by cases dl <;> cases e <;> cases b <;> decide
theorem own_form {w : World} {B E n : Nat} {v : Value} {xs : List Value} (h : w.ownsRow B E 5 v n xs) : ∃ a c, v = .slice a n c ∧ (0 < n → ∃ g, a = some ⟨g, 0, none⟩ ∧ n ≤ c) := by
  rcases h.2 with ⟨rfl, rfl⟩ | ⟨g, cap, cur, rfl, _, _, hc, _⟩
  · exact ⟨.none, 0, rfl, fun h => by omega⟩
  · exact ⟨_, cap, rfl, fun _ => ⟨g, rfl, hc⟩⟩

set_option maxRecDepth 100000 in
set_option maxHeartbeats 2000000 in
theorem tail22 (ds dl : Bool) (or nr i tO tN lO lN pO pN kn ls ch rel W E : Int) (w : World) (R : Nat) (vs vl : Value)  (u0 u1 u2 u4 u5 u6 u7 u8 u9 u10 u12 u14 u15 u16 u17 u20 u21 u22 u23 u24 u25 u26 u27 u28 u29 u30 u31 u32 u33 u34 u35 u36 u37 u38 u39 u40 u41 u42 u43 u44 u45 u46 u47 u48 u49 u50 u51 u52 u53 u54 u55 u56 u57 u58 u59 u60 u61 u62 u63 u64 u65 u66 u67 u68 u69 u70 u71 u72 u73 u74 u75 u76 u77 u78 u79 u80 u81 u82 u83 u84 u85 u86 u87 u88 u89 u90 u91 u92 u93 u94 u95 u96 u97 u98 u99 u100 u101 u102 u103 u104 u105 u106 u107 u108 u109 u110 u111 u112 u113 u114 u115 u116 u117 u118 u119 u120 u121 u122 u123 u124 u125 u126 u127 u128 u129 u130 u131 u132 u133 u134 u135 u136 u137 u138 u139 u140 u141 u142 u143 u144 u145 u146 u147 u148 u149 u150 u151 u152 u153 u154 u155 u156 u157 u158 u159 u160 u161 u162 u163 u164 u165 u166 u167 u168 u169 u170 u171 u172 u173 u174 u175 u176 u177 u178 u179 u180 u181 u182 u183 u184 u185 u186 u187 u188 u189 u190 u191 u192 u193 u194 u195 u196 u197 u198 u199 u200 u201 u202 u203 u204 u205 u206 u207 u208 u209 u210 u211 u212 u213 u214 u215 u216 u217 u218 u219 u220 u221 u222 u223 u224 u225 u226 u227 u228 u229 u230 u231 u232 u233 u234 u235 u236 u237 u238 u239 u240 u241 u242 u243 : Value) (wx : World) (A : Aft ds dl or nr i tO tN lO lN pO pN kn ls ch rel W E w R vs vl wx) (ve : Value) (hve : wx.ownsRow (R + 5) 56 5 ve (leadN dl (endsB (or % 4) tO (nr % 4) tN) (endsB (nr % 4) tN (or % 4) tO)) (leadC dl (endsB (or % 4) tO (nr % 4) tN) (endsB (nr % 4) tN (or % 4) tO) tO tN W E)) (hW0 : 0 ≤ W) (hW1 : W < 1073741824) :
    Code.wp Yba.prog ((Yba.f7.body.bind (dropS 22)).getD .skip) (bodyPost Yba.prog Yba.f7 fun e w' => e = .returned (.bool true) ∧ Below w.heap.size w w') ⟨#[u0, u1, u2, .pointer (some ⟨w.heap.size, 0, none⟩), u4, u5, u6, u7, u8, u9, u10, .pointer (some ⟨R + 1 + 1, 0, none⟩), u12, .pointer (some ⟨R + 1 + 1 + 1 + 1, 0, none⟩), u14, u15, u16, u17, .bool (endsB (nr % 4) tN (or % 4) tO), ve, u20, u21, u22, u23, u24, u25, u26, u27, u28, u29, u30, u31, u32, u33, u34, u35, u36, u37, u38, u39, u40, u41, u42, u43, u44, u45, u46, u47, u48, u49, u50, u51, u52, u53, u54, u55, u56, u57, u58, u59, u60, u61, u62, u63, u64, u65, u66, u67, u68, u69, u70, u71, u72, u73, u74, u75, u76, u77, u78, u79, u80, u81, u82, u83, u84, u85, u86, u87, u88, u89, u90, u91, u92, u93, u94, u95, u96, u97, u98, u99, u100, u101, u102, u103, u104, u105, u106, u107, u108, u109, u110, u111, u112, u113, u114, u115, u116, u117, u118, u119, u120, u121, u122, u123, u124, u125, u126, u127, u128, u129, u130, u131, u132, u133, u134, u135, u136, u137, u138, u139, u140, u141, u142, u143, u144, u145, u146, u147, u148, u149, u150, u151, u152, u153, u154, u155, u156, u157, u158, u159, u160, u161, u162, u163, u164, u165, u166, u167, u168, u169, u170, u171, u172, u173, u174, u175, u176, u177, u178, u179, u180, u181, u182, u183, u184, u185, u186, u187, u188, u189, u190, u191, u192, u193, u194, u195, u196, u197, u198, u199, u200, u201, u202, u203, u204, u205, u206, u207, u208, u209, u210, u211, u212, u213, u214, u215, u216, u217, u218, u219, u220, u221, u222, u223, u224, u225, u226, u227, u228, u229, u230, u231, u232, u233, u234, u235, u236, u237, u238, u239, u240, u241, u242, u243], []⟩ wx := by
  conv => arg 2; whnf
  have hn := leadN_two dl (endsB (or % 4) tO (nr % 4) tN) (endsB (nr % 4) tN (or % 4) tO)
  have hcell := lead_cells dl (endsB (or % 4) tO (nr % 4) tN) (endsB (nr % 4) tN (or % 4) tO) tO tN W E hW0 hW1
  have ol := A.ol
  have cl := A.cl
  have hR := A.hR
  have hz := A.hz
  obtain ⟨n, hN⟩ : ∃ n, n = (leadN dl (endsB (or % 4) tO (nr % 4) tN) (endsB (nr % 4) tN (or % 4) tO)) := ⟨_, rfl⟩
  obtain ⟨C, hC⟩ : ∃ C, C = (leadC dl (endsB (or % 4) tO (nr % 4) tN) (endsB (nr % 4) tN (or % 4) tO) tO tN W E) := ⟨_, rfl⟩
  rw [← hN] at hn ol hve
  rw [← hC] at ol hve
  simp only [← hN, ← hC] at hcell
  have HA : Hid (Aft ds dl or nr i tO tN lO lN pO pN kn ls ch rel W E w R vs vl wx) := A
  clear hN hC A
  obtain ⟨ae, ce, rfl, hae⟩ := own_form hve
  obtain ⟨al, cl', rfl, hal⟩ := own_form ol
  refine seq_cut fun J K hJ hK => ?_
  go_wp2_with fail
  go_loopw [20] (fun iv wr => ∃ k : Nat, k ≤ n ∧ iv = .int .i64 k ∧ Below wx.heap.size wx wr) (fun iv _ => n - (intOf iv).toNat)
  case atStart => exact ⟨0, Nat.zero_le _, rfl, Below.refl _ _⟩
  case round =>
    obtain ⟨k, hk, rfl, hb⟩ := hrel
    by_cases hlt : k < n
    · obtain ⟨ge, rfl, hce⟩ := hae (by omega)
      obtain ⟨gl, rfl, hcl⟩ := hal (by omega)
      obtain ⟨x, t, W', E', q0, q1, q2, q3, q4, w0, w1⟩ := hcell k hlt
      have re := (hve.lt ge rfl).2
      have rl := (ol.lt gl rfl).2
      have x0 : wr.cell? ⟨ge, k * 5, none⟩ = some (.bool x) := (hb.cell (p := ⟨ge, k * 5, none⟩) re).trans ((hve.cellAt (k * 5) (by omega)).trans q0)
      have x1 : wr.cell? ⟨ge, k * 5 + 1, none⟩ = some (.int .u64 t) := (hb.cell (p := ⟨ge, k * 5 + 1, none⟩) re).trans ((hve.cellAt (k * 5 + 1) (by omega)).trans q1)
      have x2 : wr.cell? ⟨ge, k * 5 + 2, none⟩ = some (.int .u64 W') := (hb.cell (p := ⟨ge, k * 5 + 2, none⟩) re).trans ((hve.cellAt (k * 5 + 2) (by omega)).trans q2)
      have x3 : wr.cell? ⟨ge, k * 5 + 2 + 1, none⟩ = some (.int .i64 E') := (hb.cell (p := ⟨ge, k * 5 + 2 + 1, none⟩) re).trans ((hve.cellAt (k * 5 + 2 + 1) (by omega)).trans q3)
      have x4 : wr.cell? ⟨ge, k * 5 + 2 + 2, none⟩ = some (.pointer none) := (hb.cell (p := ⟨ge, k * 5 + 2 + 2, none⟩) re).trans ((hve.cellAt (k * 5 + 2 + 2) (by omega)).trans q4)
      have y0 : wr.cell? ⟨gl, k * 5, none⟩ = some (.bool x) := (hb.cell (p := ⟨gl, k * 5, none⟩) rl).trans ((ol.cellAt (k * 5) (by omega)).trans q0)
      have y1 : wr.cell? ⟨gl, k * 5 + 1, none⟩ = some (.int .u64 t) := (hb.cell (p := ⟨gl, k * 5 + 1, none⟩) rl).trans ((ol.cellAt (k * 5 + 1) (by omega)).trans q1)
      have y2 : wr.cell? ⟨gl, k * 5 + 2, none⟩ = some (.int .u64 W') := (hb.cell (p := ⟨gl, k * 5 + 2, none⟩) rl).trans ((ol.cellAt (k * 5 + 2) (by omega)).trans q2)
      have y3 : wr.cell? ⟨gl, k * 5 + 2 + 1, none⟩ = some (.int .i64 E') := (hb.cell (p := ⟨gl, k * 5 + 2 + 1, none⟩) rl).trans ((ol.cellAt (k * 5 + 2 + 1) (by omega)).trans q3)
      have y4 : wr.cell? ⟨gl, k * 5 + 2 + 2, none⟩ = some (.pointer none) := (hb.cell (p := ⟨gl, k * 5 + 2 + 2, none⟩) rl).trans ((ol.cellAt (k * 5 + 2 + 2) (by omega)).trans q4)
      have z0 : wr.cell? ⟨R + 1 + 1, 0, none⟩ = some (.slice (some ⟨gl, 0, none⟩) n cl') := (hb.cell (p := ⟨R + 1 + 1, 0, none⟩) (by show R + 1 + 1 < _; omega)).trans cl
      have hkn : (k : Int) < (n : Int) := by omega
      have hcl2 : n ≤ cl' := hcl
      have gz : ge < wr.heap.size := by have := hb.size; omega
      have gz2 : gl < wr.heap.size := by have := hb.size; omega
      clear q0 q1 q2 q3 q4 hcell hve ol cl hae hal re rl
      go_wp2_with fail
      go_region_held3 (fun w' => w'.cell? ⟨ge, k * 5, none⟩ = some (.bool x) ∧ w'.cell? ⟨ge, k * 5 + 1, none⟩ = some (.int .u64 t) ∧ w'.cell? ⟨ge, k * 5 + 2, none⟩ = some (.int .u64 W') ∧ w'.cell? ⟨ge, k * 5 + 2 + 1, none⟩ = some (.int .i64 E') ∧ w'.cell? ⟨ge, k * 5 + 2 + 2, none⟩ = some (.pointer none) ∧ w'.cell? ⟨gl, k * 5, none⟩ = some (.bool x) ∧ w'.cell? ⟨gl, k * 5 + 1, none⟩ = some (.int .u64 t) ∧ w'.cell? ⟨gl, k * 5 + 2, none⟩ = some (.int .u64 W') ∧ w'.cell? ⟨gl, k * 5 + 2 + 1, none⟩ = some (.int .i64 E') ∧ w'.cell? ⟨gl, k * 5 + 2 + 2, none⟩ = some (.pointer none) ∧ w'.cell? ⟨R + 1 + 1, 0, none⟩ = some (.slice (some ⟨gl, 0, none⟩) n cl')) (go_keep)
        (first | (go_at_call 17; refine (equal_any W' E' _ w0 w1).mono ?_; rintro e w' ⟨rfl, rfl⟩))
      go_wp2_with fail
      go_roundw
      case rel => exact ⟨k + 1, by omega, by go_num, ((hb.alloc hb.size _).alloc (by have := hb.size; simp; omega) _).drew⟩
      case measure => simp [intOf]; omega
    · have e : k = n := by omega
      subst e
      go_wp2_with fail
      refine Met.intro (hJ.out _ _ ?_)
      exact tail23 ds dl or nr i tO tN lO lN pO pN kn ls ch rel W E w R vs _ _ _ _ _ _ _ _ _ _ _ _ _ _ _ _ _ _ _ _ _ _ _ _ _ _ _ _ _ _ _ _ _ _ _ _ _ _ _ _ _ _ _ _ _ _ _ _ _ _ _ _ _ _ _ _ _ _ _ _ _ _ _ _ _ _ _ _ _ _ _ _ _ _ _ _ _ _ _ _ _ _ _ _ _ _ _ _ _ _ _ _ _ _ _ _ _ _ _ _ _ _ _ _ _ _ _ _ _ _ _ _ _ _ _ _ _ _ _ _ _ _ _ _ _ _ _ _ _ _ _ _ _ _ _ _ _ _ _ _ _ _ _ _ _ _ _ _ _ _ _ _ _ _ _ _ _ _ _ _ _ _ _ _ _ _ _ _ _ _ _ _ _ _ _ _ _ _ _ _ _ _ _ _ _ _ _ _ _ _ _ _ _ _ _ _ _ _ _ _ _ _ _ _ _ _ _ _ _ _ _ _ _ _ _ _ _ _ _ _ _ _ _ _ _ _ _ _ _ _ _ _ _ _ _ _ _ _ _ _ _ _ _ (HA.out.next hb)

end Go.Proofs.Ybulkbfme
