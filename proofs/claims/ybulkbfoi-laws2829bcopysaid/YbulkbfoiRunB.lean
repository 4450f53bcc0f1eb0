import Derived.Test.YbulkbfoiRunA
namespace Go.Proofs.Ybulkbfoi
open Go.RowKit
set_option linter.unusedSimpArgs false
set_option linter.unusedVariables false
set_option maxRecDepth 100000 in
set_option maxHeartbeats 2000000 in
theorem tail19 (a0 a1 a2 a3 : Option Addr) (len0 cap0 len1 cap1 len2 cap2 len3 cap3 : Nat) (q qid : Int) (w : World) (n : Nat) (ids md : Nat → Int) (ds ps : List Int) (id last : Int) (want : Bool) (L B B2 : Nat) (bv ev : Value) (fp : Nat → Option Addr) (ms : Nat → Int) (u6 u7 u8 u9 u10 u11 u17 u18 u19 u20 u21 u22 u23 u25 u27 u30 u31 u32 u33 u34 u35 u36 u37 u38 u39 u40 u41 u42 u43 u44 u45 u46 u47 u48 u49 u50 u51 u52 u53 u54 u55 u56 u57 u58 u59 u60 u61 u62 u63 u64 u65 u66 u67 u68 u69 u70 u71 u72 u73 u74 u75 u76 u77 u78 u79 u80 u81 u82 u83 u84 u85 u86 u87 u88 u89 u90 u91 u92 u93 u94 u95 u96 u97 u98 u99 u100 u101 u102 u103 u104 u105 u106 u107 u108 u109 u110 u111 u112 u113 u114 u115 u116 u117 u118 u119 u120 u121 u122 u123 u124 u125 u126 u127 u128 u129 u130 u131 u132 u133 u134 u135 u136 u137 u138 u139 u140 u141 u142 u143 u144 u145 u146 u147 u148 u149 u150 u151 u152 u153 u154 u155 u156 u157 u158 u159 u160 u161 u162 u163 u164 u165 u166 u167 u168 u169 u170 u171 u172 u173 u174 u175 u176 u177 u178 u179 u180 u181 u182 u183 u184 u185 u186 u187 u188 u189 u190 u191 u192 u193 u194 u195 u196 u197 u198 u199 u200 u201 u202 u203 u204 u205 u206 u207 u208 u209 u210 u211 u212 u213 u214 u215 u216 u217 u218 u219 u220 u221 u222 u223 u224 u225 u226 u227 u228 u229 u230 u231 u232 u233 u234 u235 u236 u237 u238 u239 u240 u241 u242 u243 u244 u245 u246 u247 : Value) (wx : World) (E : Env a0 a1 a2 a3 len0 cap0 len1 cap1 len2 cap2 len3 cap3 q qid w n ids md ds ps) (wy : World) (A : Aft w n ids md ds fp ms (usOf want L) wy) (hl : want = true → last = (L : Int)) (HW : Wants ids md n id want L) (hps : ps.length = len3) (hbv : wy.ownsRow B 5 1 bv len3 ((mixI want L ds ps).map (.int .u8))) (hby : Below wy.heap.size wy wx) (hev : wx.ownsRow wy.heap.size 5 1 ev len3 (ps.map (.int .u8))) :
    Code.wp Yba.prog ((Yba.f3.body.bind (dropS 19)).getD .skip) (bodyPost Yba.prog Yba.f3 fun e w' => e = .returned (.bool true) ∧ Below w.heap.size w w') ⟨#[.slice a0 len0 cap0, .slice a1 len1 cap1, .slice a2 len2 cap2, .slice a3 len3 cap3, .int .u8 q, .int .u64 qid, u6, u7, u8, u9, u10, u11, .bool false, .int .i64 n, .pointer (some ⟨w.heap.size + 1, 0, none⟩), .slice (some ⟨w.heap.size + 2, 0, none⟩) n n, .slice (some ⟨w.heap.size + 3, 0, none⟩) n n, u17, u18, u19, u20, u21, u22, u23, bv, u25, .int .i64 last, u27, .bool want, ev, u30, u31, u32, u33, u34, u35, u36, u37, u38, u39, u40, u41, u42, u43, u44, u45, u46, u47, u48, u49, u50, u51, u52, u53, u54, u55, u56, u57, u58, u59, u60, u61, u62, u63, u64, u65, u66, u67, u68, u69, u70, u71, u72, u73, u74, u75, u76, u77, u78, u79, u80, u81, u82, u83, u84, u85, u86, u87, u88, u89, u90, u91, u92, u93, u94, u95, u96, u97, u98, u99, u100, u101, u102, u103, u104, u105, u106, u107, u108, u109, u110, u111, u112, u113, u114, u115, u116, u117, u118, u119, u120, u121, u122, u123, u124, u125, u126, u127, u128, u129, u130, u131, u132, u133, u134, u135, u136, u137, u138, u139, u140, u141, u142, u143, u144, u145, u146, u147, u148, u149, u150, u151, u152, u153, u154, u155, u156, u157, u158, u159, u160, u161, u162, u163, u164, u165, u166, u167, u168, u169, u170, u171, u172, u173, u174, u175, u176, u177, u178, u179, u180, u181, u182, u183, u184, u185, u186, u187, u188, u189, u190, u191, u192, u193, u194, u195, u196, u197, u198, u199, u200, u201, u202, u203, u204, u205, u206, u207, u208, u209, u210, u211, u212, u213, u214, u215, u216, u217, u218, u219, u220, u221, u222, u223, u224, u225, u226, u227, u228, u229, u230, u231, u232, u233, u234, u235, u236, u237, u238, u239, u240, u241, u242, u243, u244, u245, u246, u247], []⟩ wx := by
  conv => arg 2; whnf
  let Q' : Exit → Act → World → Prop := (bodyPost Yba.prog Yba.f3 fun e w' => e = .returned (.bool true) ∧ Below w.heap.size w w')
  show Code.wp Yba.prog _ Q' _ _
  have hn8 := E.n8
  have hl3 := E.l3
  refine seq_cut fun J K hJ hK => ?_
  cases want
  · go_wp2_with fail
    refine Met.intro (hJ.out _ _ ?_)
    exact tail20 a0 a1 a2 a3 len0 cap0 len1 cap1 len2 cap2 len3 cap3 q qid w n ids md ds ps id last false L B wy.heap.size bv ev fp ms _ _ _ _ _ _ _ _ _ _ _ _ _ _ _ _ _ _ _ _ _ _ _ _ _ _ _ _ _ _ _ _ _ _ _ _ _ _ _ _ _ _ _ _ _ _ _ _ _ _ _ _ _ _ _ _ _ _ _ _ _ _ _ _ _ _ _ _ _ _ _ _ _ _ _ _ _ _ _ _ _ _ _ _ _ _ _ _ _ _ _ _ _ _ _ _ _ _ _ _ _ _ _ _ _ _ _ _ _ _ _ _ _ _ _ _ _ _ _ _ _ _ _ _ _ _ _ _ _ _ _ _ _ _ _ _ _ _ _ _ _ _ _ _ _ _ _ _ _ _ _ _ _ _ _ _ _ _ _ _ _ _ _ _ _ _ _ _ _ _ _ _ _ _ _ _ _ _ _ _ _ _ _ _ _ _ _ _ _ _ _ _ _ _ _ _ _ _ _ _ _ _ _ _ _ _ _ _ _ _ _ _ _ _ _ _ _ _ _ _ _ _ _ _ _ _ _ _ _ _ _ _ _ _ E (A.next hby) hl (own_next hbv hby) hev
  · obtain ⟨hLast, hmd⟩ := HW.1 rfl
    have hlast := hl rfl
    subst hlast
    have hfpn := A.fpv L hLast.1 (by rw [hLast.2.1]; exact hLast.2.2.1) (by rw [hmd]; decide)
    cases hp : fp L with
    | none => exact absurd hp hfpn
    | some a =>
      obtain ⟨b, rfl, hf⟩ := A.fr L hLast.1 a hp
      have hfc := (A.next hby).fc L hLast.1
      rw [hp] at hfc
      obtain ⟨db, dcap, cc, e1, e2, e4, e3⟩ := hf.c1
      have hb1 := (hby.cell (p := ⟨b, 1, none⟩) (lt_of_cell e1)).trans e1
      have hdlt := lt_of_shape e2
      have hLn := hLast.1
      have HA : Hid (Aft w n ids md ds fp ms (usOf true L) wy) := A
      have HE : Hid (Env a0 a1 a2 a3 len0 cap0 len1 cap1 len2 cap2 len3 cap3 q qid w n ids md ds ps) := E
      have HV := hide hbv
      have HD : Hid (∀ i, i < ds.length + 1 → wy.cell? ⟨db, i, none⟩ = some (.int .u8 ((rowI L ds).getD i 0))) := by
        intro i hi
        apply e3 i
        rw [rowOf_rowI, List.getElem?_map, List.getD_eq_getElem?_getD, List.getElem?_eq_getElem (by simp [rowI]; omega)]
        rfl
      have HB := hide hby
      have hrl : (rowI L ds).length = ds.length + 1 := by simp [rowI]
      have hdsl := E.d2.length
      have hl2 := E.l2
      obtain ⟨dl, hdl⟩ : ∃ dl, dl = ds.length + 1 := ⟨_, rfl⟩
      rw [← hdl] at hb1 HD hrl
      obtain ⟨R, hR⟩ : ∃ R, R = rowI L ds := ⟨_, rfl⟩
      have HR : Hid (R = rowI L ds) := hR
      rw [← hR] at HD hrl
      clear A E hbv e3 e1 hf hfpn HW hLast hby hp hR
      rcases own_forms hev with ⟨rfl, h0⟩ | ⟨g, cap, rfl⟩
      · have hmx : mixI true L ds ps = ps := by
          have : ps = [] := List.eq_nil_of_length_eq_zero (by omega)
          subst this; rfl
        have hev' : Hid (wx.ownsRow wy.heap.size 5 1 (.slice none 0 0) len3 ((mixI true L ds ps).map (.int .u8))) := by rw [hmx]; exact hev
        clear hev
        go_wp2_with fail
        go_loopw [31] (fun iv wr => iv = .int .i64 0 ∧ wr = wx) (fun _ _ => 0)
        case atStart => exact ⟨rfl, rfl⟩
        case round =>
          obtain ⟨rfl, rfl⟩ := hrel
          subst h0
          go_wp2_with fail
          refine Met.intro (hJ.out _ _ ?_)
          exact tail20 a0 a1 a2 a3 len0 cap0 len1 cap1 len2 cap2 0 cap3 q qid w n ids md ds ps id L true L B wy.heap.size bv (.slice none 0 0) fp ms _ _ _ _ _ _ _ _ _ _ _ _ _ _ _ _ _ _ _ _ _ _ _ _ _ _ _ _ _ _ _ _ _ _ _ _ _ _ _ _ _ _ _ _ _ _ _ _ _ _ _ _ _ _ _ _ _ _ _ _ _ _ _ _ _ _ _ _ _ _ _ _ _ _ _ _ _ _ _ _ _ _ _ _ _ _ _ _ _ _ _ _ _ _ _ _ _ _ _ _ _ _ _ _ _ _ _ _ _ _ _ _ _ _ _ _ _ _ _ _ _ _ _ _ _ _ _ _ _ _ _ _ _ _ _ _ _ _ _ _ _ _ _ _ _ _ _ _ _ _ _ _ _ _ _ _ _ _ _ _ _ _ _ _ _ _ _ _ _ _ _ _ _ _ _ _ _ _ _ _ _ _ _ _ _ _ _ _ _ _ _ _ _ _ _ _ _ _ _ _ _ _ _ _ _ _ _ _ _ _ _ _ _ _ _ _ _ _ _ _ _ _ _ _ _ _ _ _ _ _ _ _ _ _ HE.out (HA.out.next HB.out) (fun _ => rfl) (own_next HV.out HB.out) hev'.out
      · have hg : wy.heap.size ≤ g := (hev.lt g rfl).1
        go_wp2_with fail
        go_loopw [31] (fun iv wr => ∃ i : Nat, i ≤ len3 ∧ i ≤ dl ∧ iv = .int .i64 i ∧ Below wy.heap.size wy wr ∧ wr.ownsRow wy.heap.size 5 1 (.slice (some ⟨g, 0, none⟩) len3 cap) len3 ((splice ps 0 (R.take i)).map (.int .u8))) (fun iv _ => len3 - (intOf iv).toNat)
        case atStart => exact ⟨0, Nat.zero_le _, Nat.zero_le _, rfl, HB.out, by rw [splice_zero]; exact hev⟩
        case round =>
          obtain ⟨i, hi1, hi2, rfl, hbw, how⟩ := hrel
          have HO := hide how
          have HBw := hide hbw
          by_cases c1 : i < len3
          · by_cases c2 : i < dl
            · have hd := (hbw.cell (p := ⟨db, i, none⟩) hdlt).trans (HD.out i c2)
              have hx := how.cellAt i (by omega)
              obtain ⟨xv, hxv⟩ : ∃ xv, ((splice ps 0 (R.take i)).map (Value.int .u8))[i]? = some xv := ⟨_, List.getElem?_eq_getElem (by rw [how.1]; omega)⟩
              rw [hxv] at hx
              have hz := how.frozenAt i
              clear how hbw hxv
              obtain ⟨y, hy⟩ : ∃ y, y = R.getD i 0 := ⟨_, rfl⟩
              rw [← hy] at hd
              have HYy : Hid (y = R.getD i 0) := hy
              clear hy hev
              go_wp2_with fail
              go_roundw
              case rel => exact ⟨i + 1, by omega, by omega, by go_num, HBw.out.setCell (show wy.heap.size ≤ g from hg) _, by rw [HYy.out]; exact stored_row HO.out hps c1 (by omega)⟩
              case measure => simp [intOf]; omega
            · clear how hbw hev
              have hmx : (splice ps 0 (R.take i)) = mixI true L ds ps := by rw [splice_end ps R i (by omega) (by omega) (by omega), HR.out]; rfl
              have HMx := hide hmx
              clear hmx
              go_wp2_with fail
              refine Met.intro (hJ.out _ _ ?_)
              have how := HO.out
              rw [HMx.out] at how
              exact tail20 a0 a1 a2 a3 len0 cap0 len1 cap1 len2 cap2 len3 cap3 q qid w n ids md ds ps id L true L B wy.heap.size bv _ fp ms _ _ _ _ _ _ _ _ _ _ _ _ _ _ _ _ _ _ _ _ _ _ _ _ _ _ _ _ _ _ _ _ _ _ _ _ _ _ _ _ _ _ _ _ _ _ _ _ _ _ _ _ _ _ _ _ _ _ _ _ _ _ _ _ _ _ _ _ _ _ _ _ _ _ _ _ _ _ _ _ _ _ _ _ _ _ _ _ _ _ _ _ _ _ _ _ _ _ _ _ _ _ _ _ _ _ _ _ _ _ _ _ _ _ _ _ _ _ _ _ _ _ _ _ _ _ _ _ _ _ _ _ _ _ _ _ _ _ _ _ _ _ _ _ _ _ _ _ _ _ _ _ _ _ _ _ _ _ _ _ _ _ _ _ _ _ _ _ _ _ _ _ _ _ _ _ _ _ _ _ _ _ _ _ _ _ _ _ _ _ _ _ _ _ _ _ _ _ _ _ _ _ _ _ _ _ _ _ _ _ _ _ _ _ _ _ _ _ _ _ _ _ _ _ _ _ _ _ _ _ _ _ _ _ HE.out (HA.out.next HBw.out) (fun _ => rfl) (own_next HV.out HBw.out) how
          · clear how hbw hev
            have hmx : (splice ps 0 (R.take i)) = mixI true L ds ps := by rw [splice_end ps R i (by omega) (by omega) (by omega), HR.out]; rfl
            have HMx := hide hmx
            clear hmx
            go_wp2_with fail
            refine Met.intro (hJ.out _ _ ?_)
            have how := HO.out
            rw [HMx.out] at how
            exact tail20 a0 a1 a2 a3 len0 cap0 len1 cap1 len2 cap2 len3 cap3 q qid w n ids md ds ps id L true L B wy.heap.size bv _ fp ms _ _ _ _ _ _ _ _ _ _ _ _ _ _ _ _ _ _ _ _ _ _ _ _ _ _ _ _ _ _ _ _ _ _ _ _ _ _ _ _ _ _ _ _ _ _ _ _ _ _ _ _ _ _ _ _ _ _ _ _ _ _ _ _ _ _ _ _ _ _ _ _ _ _ _ _ _ _ _ _ _ _ _ _ _ _ _ _ _ _ _ _ _ _ _ _ _ _ _ _ _ _ _ _ _ _ _ _ _ _ _ _ _ _ _ _ _ _ _ _ _ _ _ _ _ _ _ _ _ _ _ _ _ _ _ _ _ _ _ _ _ _ _ _ _ _ _ _ _ _ _ _ _ _ _ _ _ _ _ _ _ _ _ _ _ _ _ _ _ _ _ _ _ _ _ _ _ _ _ _ _ _ _ _ _ _ _ _ _ _ _ _ _ _ _ _ _ _ _ _ _ _ _ _ _ _ _ _ _ _ _ _ _ _ _ _ _ _ _ _ _ _ _ _ _ _ _ _ _ _ _ _ _ _ HE.out (HA.out.next HBw.out) (fun _ => rfl) (own_next HV.out HBw.out) how

end Go.Proofs.Ybulkbfoi
