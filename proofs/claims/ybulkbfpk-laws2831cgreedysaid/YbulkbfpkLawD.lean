import Derived.Test.YbulkbfpkLawE
namespace Go.Proofs.Ybulkbfpk
open Go.RowKit Go.Shelf
set_option maxRecDepth 100000 in
set_option maxHeartbeats 2000000 in
theorem tailC18 (J : JIn) (A : JAd) (w : World) (w9 wt : World) (G : Nat) (jb bb nb : Nat → Nat) (pcv : Value) (ap : Nat → Value) (u1 u2 u3 u4 u5 u6 u11 u12 u13 u14 u15 u16 u17 u18 u19 u22 u28 u29 u30 u31 u32 u33 u34 u35 u36 u37 u38 u39 u40 u41 u42 u43 u44 u45 u46 u47 u48 u49 u50 u51 u52 u53 u54 u55 u56 u57 u58 u59 u60 u61 u62 u63 u64 u65 u66 u67 u68 u69 u70 u71 u72 u73 u74 u75 u76 u77 u78 u79 u80 u81 u82 u83 u84 u85 u86 u87 u88 u89 u90 u91 u92 u93 u94 u95 u96 u97 u98 u99 u100 u101 u102 u103 u104 u105 u106 u107 u108 u109 u110 u111 u112 u113 u114 u115 u116 u117 u118 u119 u120 u121 u122 u123 u124 u125 u126 u127 u128 u129 u130 u131 u132 u133 u134 u135 u136 u137 u138 u139 u140 u141 u142 u143 u144 u145 u146 u147 u148 u149 u150 u151 u152 u153 u154 u155 u156 u157 u158 u159 u160 u161 u162 u163 u164 u165 u166 u167 u168 u169 u170 u171 u172 u173 u174 u175 u176 u177 u178 u179 u180 u181 u182 u183 u184 u185 u186 u187 u188 u189 u190 u191 u192 u193 u194 u195 u196 u197 u198 u199 u200 u201 u202 u203 u204 u205 u206 u207 u208 u209 u210 u211 u212 u213 u214 u215 u216 u217 u218 u219 u220 u221 u222 u223 u224 u225 u226 u227 u228 u229 u230 u231 u232 u233 u234 u235 u236 u237 u238 u239 u240 u241 u242 u243 u244 u245 u246 u247 u248 u249 u250 u251 u252 u253 u254 u255 u256 u257 u258 u259 u260 u261 u262 u263 u264 u265 u266 u267 u268 u269 u270 u271 u272 u273 u274 u275 u276 u277 u278 u279 u280 u281 u282 u283 u284 u285 u286 u287 u288 u289 u290 u291 : Value) (wx : World) (E : EnvJ J A w) (C : C14 J w w9 wt G jb bb nb pcv ap) (M : Mst J (.slice none 0 0) (gs J.dat 0) wt wx) :
    Code.wp Yba.prog ((Yba.f4.body.bind (dropS 18)).getD .skip) (bodyPost Yba.prog Yba.f4 fun e w' => e = .returned (.bool true) ∧ Below w.heap.size w w') ⟨#[.slice A.a0 J.n A.cap, u1, u2, u3, u4, u5, u6, .int .i64 J.n, .slice (some ⟨G, 0, none⟩) J.n J.n, .slice (some ⟨G + 1, 0, none⟩) J.n J.n, .slice (some ⟨G + 2, 0, none⟩) J.n J.n, u11, u12, u13, u14, u15, u16, u17, u18, u19, pcv, .slice (some ⟨w9.heap.size, 0, none⟩) J.n J.n, u22, .pointer (some ⟨w9.heap.size + 1, 0, none⟩), .pointer (some ⟨w9.heap.size + 3, 0, none⟩), .pointer (some ⟨wt.heap.size, 0, none⟩), .slice none 0 0, .slice (some ⟨wt.heap.size + 1, 0, none⟩) J.n J.n, u28, u29, u30, u31, u32, u33, u34, u35, u36, u37, u38, u39, u40, u41, u42, u43, u44, u45, u46, u47, u48, u49, u50, u51, u52, u53, u54, u55, u56, u57, u58, u59, u60, u61, u62, u63, u64, u65, u66, u67, u68, u69, u70, u71, u72, u73, u74, u75, u76, u77, u78, u79, u80, u81, u82, u83, u84, u85, u86, u87, u88, u89, u90, u91, u92, u93, u94, u95, u96, u97, u98, u99, u100, u101, u102, u103, u104, u105, u106, u107, u108, u109, u110, u111, u112, u113, u114, u115, u116, u117, u118, u119, u120, u121, u122, u123, u124, u125, u126, u127, u128, u129, u130, u131, u132, u133, u134, u135, u136, u137, u138, u139, u140, u141, u142, u143, u144, u145, u146, u147, u148, u149, u150, u151, u152, u153, u154, u155, u156, u157, u158, u159, u160, u161, u162, u163, u164, u165, u166, u167, u168, u169, u170, u171, u172, u173, u174, u175, u176, u177, u178, u179, u180, u181, u182, u183, u184, u185, u186, u187, u188, u189, u190, u191, u192, u193, u194, u195, u196, u197, u198, u199, u200, u201, u202, u203, u204, u205, u206, u207, u208, u209, u210, u211, u212, u213, u214, u215, u216, u217, u218, u219, u220, u221, u222, u223, u224, u225, u226, u227, u228, u229, u230, u231, u232, u233, u234, u235, u236, u237, u238, u239, u240, u241, u242, u243, u244, u245, u246, u247, u248, u249, u250, u251, u252, u253, u254, u255, u256, u257, u258, u259, u260, u261, u262, u263, u264, u265, u266, u267, u268, u269, u270, u271, u272, u273, u274, u275, u276, u277, u278, u279, u280, u281, u282, u283, u284, u285, u286, u287, u288, u289, u290, u291], []⟩ wx := by
  conv => arg 2; whnf
  let Q' : Exit → Act → World → Prop := (bodyPost Yba.prog Yba.f4 fun e w' => e = .returned (.bool true) ∧ Below w.heap.size w w')
  show Code.wp Yba.prog _ Q' _ _
  refine seq_cut fun J' K hJ hK => ?_
  have hn1 := C.hB.n1
  have HC := hide (show _ ∧ _ from ⟨C, E⟩)
  have HM := hide M
  clear C E M
  go_wp2_with fail
  go_loopw [26, 29] (fun pv iv wr => ∃ t : Nat, t ≤ J.n ∧ iv = .int .i64 t ∧ Mst J pv (gs J.dat t) wt wr) (fun _ iv _ => J.n - (intOf iv).toNat)
  case atStart => exact ⟨0, Nat.zero_le _, rfl, HM.out⟩
  case round =>
    obtain ⟨t, ht, rfl, Mt⟩ := hrel
    obtain ⟨wo, hwo⟩ : ∃ wo, wo = wr := ⟨_, rfl⟩
    subst hwo
    have HT := hide Mt
    by_cases hlt : t < J.n
    · have cpk := HC.out.1.pks Mt.bel hlt
      by_cases hneg : J.pk t < 0
      · clear Mt
        go_wp2_with fail
        case roundEnd =>
          refine ⟨⟨t + 1, by omega, by simp, ?_⟩, by simp [intOf]; omega⟩
          rw [gs_neg (show J.dat.pk t < 0 from hneg)]; exact HT.out
      · obtain ⟨b, hb⟩ : ∃ b : Nat, J.pk t = b := ⟨(J.pk t).toNat, by omega⟩
        have hpk := pk_picked hb
        have cpn := HC.out.1.pns Mt.bel hlt hpk
        have E2 := HC.out.2.next (HC.out.1.below Mt.bel)
        have hadr : A.a0 = some ⟨A.ib, A.io, none⟩ := by
          rcases HC.out.2.adr with h | h
          · omega
          · exact h
        have cc := E2.c0 t hlt
        have hsz := Mt.sz
        have hm1 := HC.out.1.hB.m1 hlt
        have HA := hide (show _ ∧ _ ∧ _ from ⟨hadr, hb, hpk⟩)
        have HN := hide (show ¬ J.dat.pk t < 0 from hneg)
        rw [hb] at cpk
        rw [hadr]
        clear E2 hadr hb hpk hneg Mt
        cases hc : J.core t with
        | true =>
          rw [hc] at cc
          have Hc := hide (show J.dat.core t = true from hc)
          have G0 := gok J.dat t
          have hlen : (gs J.dat t).ps.length ≤ 300 := by have := G0.len; omega
          have HK := hide (clone_own (gs J.dat t).ps u26 (wt.heap.size + 2) wo (by omega) HT.out.pnd)
          obtain ⟨i3, hi3, hz3, hs3, hb3⟩ := info_of (t := 3) (z := .int .i64 0) (s := 1) (b := 8) (by kernel_rfl)
          clear G0 hc
          go_upto_region 69 with (first | (go_at_call 9; go_loud (refine HK.out.mono ?_; rintro e w2 ⟨v2, rfl, q2, l2⟩; have H2 := hide (show _ ∧ _ from ⟨q2, l2⟩); have hsz2 := l2.size; clear q2 l2 HK)) | (at_builtin; go_loud (refine wpList_append_lies _ rfl (.tmp 213) (.tmp 215) 23 rfl wo.heap.size 3 i3 _ 1 8 Yba.underlying23 hi3 hz3 hs3 hb3 rfl (by decide) v2 (gs J.dat t).ps.length (psV (gs J.dat t).ps) rfl (H2.out.1.alloc _) ⟨w2.heap.size, 0, none⟩ 1 1 [.int .i64 t] rfl rfl (one_news' w2 (.int .i64 t) 3) (one_int' _ _) (by decide) (by unfold maxLen; omega) (by omega) (by simp; omega) (w2.heap.size + 1) (by simp) ?_; intro g3 cap3 w3 h1 h2 h3 h4; have H3 := hide (show _ ∧ _ from ⟨h1, h2⟩); clear h1 h2 h3 h4)))
          have L3 : Below wo.heap.size wo w3 := (H2.out.2.alloc hsz2 _).grown H3.out.2 (by simp; omega) (fun k hk => (H2.out.1.lt k hk).1)
          have M3 := HT.out.next L3
          have own3 : w3.ownsRow wo.heap.size 3 1 (.slice (some ⟨g3, 0, none⟩) ((gs J.dat t).ps.length + 1) cap3) ((gs J.dat t).ps ++ [t]).length (psV ((gs J.dat t).ps ++ [t])) := by
            rw [psV_snoc, List.length_append]; exact H3.out.1
          have hocc := M3.occ
          have hsz3 := M3.sz
          obtain ⟨us, hus⟩ : ∃ us, us = (gs J.dat t).us := ⟨_, rfl⟩
          rw [← hus] at hocc
          have o0 : w3.cell? ⟨wt.heap.size, 0, none⟩ = some (.bool (us 0)) := (cells_at hocc 0).trans (usA_at us 0 (by decide))
          have o1 : w3.cell? ⟨wt.heap.size, 1, none⟩ = some (.bool (us 1)) := (cells_at hocc 1).trans (usA_at us 1 (by decide))
          have o2 : w3.cell? ⟨wt.heap.size, 2, none⟩ = some (.bool (us 2)) := (cells_at hocc 2).trans (usA_at us 2 (by decide))
          have o3 : w3.cell? ⟨wt.heap.size, 3, none⟩ = some (.bool (us 3)) := (cells_at hocc 3).trans (usA_at us 3 (by decide))
          have o4 : w3.cell? ⟨wt.heap.size, 4, none⟩ = some (.bool (us 4)) := (cells_at hocc 4).trans (usA_at us 4 (by decide))
          have o5 : w3.cell? ⟨wt.heap.size, 5, none⟩ = some (.bool (us 5)) := (cells_at hocc 5).trans (usA_at us 5 (by decide))
          have o6 : w3.cell? ⟨wt.heap.size, 6, none⟩ = some (.bool (us 6)) := (cells_at hocc 6).trans (usA_at us 6 (by decide))
          have o7 : w3.cell? ⟨wt.heap.size, 7, none⟩ = some (.bool (us 7)) := (cells_at hocc 7).trans (usA_at us 7 (by decide))
          have HP := pendfit_any J.dat us ((gs J.dat t).ps ++ [t]) _ wo.heap.size nb (G + 2) J.n w3 (by rw [List.length_append]; show _ + 1 ≤ 1024; omega) own3 (HC.out.1.pkn M3.bel fun s hs => by
            rcases List.mem_append.1 hs with h | h
            · exact gs_ps ht s h
            · rw [List.mem_singleton.1 h]; exact ⟨hlt, HA.out.2.2⟩)
          have HU := hide (show _ ∧ _ ∧ _ from ⟨hus, M3, own3⟩)
          clear hocc M3 own3 L3 hi3 hz3 hs3 hb3
          cases hp : pendFit J.dat us ((gs J.dat t).ps ++ [t]) with
          | true =>
            rw [hp] at HP
            have HP' := hide HP
            have Hp := hide hp
            clear HP hp hus
            go_wp2_with (go_at_call 11; go_loud (refine HP'.out.mono ?_; rintro e w4 ⟨rfl, l4⟩; have M4 := hide (HU.out.2.1.next l4); have k4 := M4.out.exc t hlt; have f4 := M4.out.exf t; have s4 := M4.out.sz; have O4 := hide (own_kept HU.out.2.2 (fun k _ _ hl => l4.block k hl)); clear l4 HP'))
            case roundEnd =>
              refine ⟨⟨t + 1, by omega, by simp, ?_⟩, by simp [intOf]; omega⟩
              have hgs := gs_ct (by have := HN.out; omega) Hc.out (by rw [← HU.out.1]; exact Hp.out)
              rw [hgs, show J.dat.pk t = (b : Int) from HA.out.2.1]
              exact (M4.out.pend (own_mono O4.out hsz)).put hlt b
          | false =>
            rw [hp] at HP
            have HP' := hide HP
            have Hp := hide hp
            clear HP hp hus
            go_wp2_with (go_at_call 11; go_loud (refine HP'.out.mono ?_; rintro e w4 ⟨rfl, l4⟩; have M4 := hide (HU.out.2.1.next l4); clear l4 HP'))
            case roundEnd =>
              refine ⟨⟨t + 1, by omega, by simp, ?_⟩, by simp [intOf]; omega⟩
              have hgs := gs_cf (by have := HN.out; omega) Hc.out (by rw [← HU.out.1]; exact Hp.out)
              rw [hgs]
              exact M4.out

        | false =>
          rw [hc] at cc
          have Hc := hide (show J.dat.core t = false from hc)
          have hlen : (gs J.dat t).ps.length ≤ 300 := by have := (gok J.dat t).len; omega
          obtain ⟨us, hus⟩ : ∃ us, us = (gs J.dat t).us := ⟨_, rfl⟩
          have hocc := HT.out.occ
          rw [← hus] at hocc
          have HF := fits_any us (J.dat.m t) (J.dat.nf t) (nb t) (J.dat.m t) wo hm1 (fun i _ => nf_lt J t i) (HC.out.1.nds HT.out.bel hlt)
          have o0 : wo.cell? ⟨wt.heap.size, 0, none⟩ = some (.bool (us 0)) := (cells_at hocc 0).trans (usA_at us 0 (by decide))
          have o1 : wo.cell? ⟨wt.heap.size, 1, none⟩ = some (.bool (us 1)) := (cells_at hocc 1).trans (usA_at us 1 (by decide))
          have o2 : wo.cell? ⟨wt.heap.size, 2, none⟩ = some (.bool (us 2)) := (cells_at hocc 2).trans (usA_at us 2 (by decide))
          have o3 : wo.cell? ⟨wt.heap.size, 3, none⟩ = some (.bool (us 3)) := (cells_at hocc 3).trans (usA_at us 3 (by decide))
          have o4 : wo.cell? ⟨wt.heap.size, 4, none⟩ = some (.bool (us 4)) := (cells_at hocc 4).trans (usA_at us 4 (by decide))
          have o5 : wo.cell? ⟨wt.heap.size, 5, none⟩ = some (.bool (us 5)) := (cells_at hocc 5).trans (usA_at us 5 (by decide))
          have o6 : wo.cell? ⟨wt.heap.size, 6, none⟩ = some (.bool (us 6)) := (cells_at hocc 6).trans (usA_at us 6 (by decide))
          have o7 : wo.cell? ⟨wt.heap.size, 7, none⟩ = some (.bool (us 7)) := (cells_at hocc 7).trans (usA_at us 7 (by decide))
          have HU := hide (show _ ∧ _ from ⟨hus, hocc⟩)
          clear hc hus hocc
          cases hf : fitsF us (J.dat.nf t) (J.dat.m t) with
          | false =>
            rw [hf] at HF
            have HF' := hide HF
            have Hf := hide hf
            clear HF hf
            go_wp2_with (go_at_call 12; go_loud (refine HF'.out.mono ?_; rintro e w4 ⟨rfl, l4⟩; have M4 := hide (HT.out.next l4); clear l4 HF'))
            case roundEnd =>
              refine ⟨⟨t + 1, by omega, by simp, ?_⟩, by simp [intOf]; omega⟩
              have hgs := gs_nf (by have := HN.out; omega) Hc.out (.inl (by rw [← HU.out.1]; exact Hf.out))
              rw [hgs]
              exact M4.out
          | true =>
            rw [hf] at HF
            have HF' := hide HF
            have Hf := hide hf
            clear HF hf
            go_upto_region 73 with (go_at_call 12; go_loud (refine HF'.out.mono ?_; rintro e w2 ⟨rfl, l2⟩; have H2 := hide l2; have hsz2 := l2.size; clear l2 HF'))
            have hocc2 := (H2.out.block _ (by omega)).trans HU.out.2
            clear o0 o1 o2 o3 o4 o5 o6 o7
            have o0 : w2.cell? ⟨wt.heap.size, 0, none⟩ = some (.bool (us 0)) := (cells_at hocc2 0).trans (usA_at us 0 (by decide))
            have o1 : w2.cell? ⟨wt.heap.size, 1, none⟩ = some (.bool (us 1)) := (cells_at hocc2 1).trans (usA_at us 1 (by decide))
            have o2 : w2.cell? ⟨wt.heap.size, 2, none⟩ = some (.bool (us 2)) := (cells_at hocc2 2).trans (usA_at us 2 (by decide))
            have o3 : w2.cell? ⟨wt.heap.size, 3, none⟩ = some (.bool (us 3)) := (cells_at hocc2 3).trans (usA_at us 3 (by decide))
            have o4 : w2.cell? ⟨wt.heap.size, 4, none⟩ = some (.bool (us 4)) := (cells_at hocc2 4).trans (usA_at us 4 (by decide))
            have o5 : w2.cell? ⟨wt.heap.size, 5, none⟩ = some (.bool (us 5)) := (cells_at hocc2 5).trans (usA_at us 5 (by decide))
            have o6 : w2.cell? ⟨wt.heap.size, 6, none⟩ = some (.bool (us 6)) := (cells_at hocc2 6).trans (usA_at us 6 (by decide))
            have o7 : w2.cell? ⟨wt.heap.size, 7, none⟩ = some (.bool (us 7)) := (cells_at hocc2 7).trans (usA_at us 7 (by decide))
            have hnew := newBlock w2 (.cells (usA us) 109)
            have lnew := (Below.refl w2.heap.size w2).alloc (Nat.le_refl _) (.cells (usA us) 109)
            have HNW := hide (show _ ∧ _ from ⟨hnew, lnew⟩)
            clear hnew lnew hocc2
            go_wp2_with fail
            go_loopw [233] (fun iv w3 => ∃ j : Nat, j ≤ J.dat.m t ∧ iv = .int .i64 j ∧ Below w2.heap.size w2 w3 ∧ w3.heap[w2.heap.size]? = some (.cells (usA (markF us (J.dat.nf t) j)) 109)) (fun iv _ => J.dat.m t - (intOf iv).toNat)
            case atStart => exact ⟨0, Nat.zero_le _, rfl, HNW.out.2, HNW.out.1⟩
            case round =>
              obtain ⟨j, hj, rfl, L3, b3⟩ := hrel
              have H3 := hide (show _ ∧ _ from ⟨L3, b3⟩)
              have Lo : Below wo.heap.size wo wr := H2.out.trans (L3.mono hsz2)
              by_cases hjl : j < J.dat.m t
              · have cj := later Lo (HC.out.1.nds HT.out.bel hlt j hjl)
                have hx8 := nf_lt J t j
                have cu := (cells_at b3 (J.dat.nf t j)).trans (usA_at _ _ hx8)
                have fu := frozen_at b3 (J.dat.nf t j)
                clear L3 b3 Lo o0 o1 o2 o3 o4 o5 o6 o7
                generalize hx : J.dat.nf t j = x at *
                go_wp2_with fail
                go_roundw
                case rel =>
                  refine ⟨j + 1, by omega, by simp, H3.out.1.setCell (p := ⟨w2.heap.size, x, none⟩) (Nat.le_refl _) _, ?_⟩
                  rw [heap_setCell_same _ _ _ _ _ _ H3.out.2, usA_set _ _ hx8]
                  simp only [markF, hx]
                case measure => simp [intOf]; omega
              · have hje : j = J.dat.m t := by omega
                subst hje
                obtain ⟨us', hus'⟩ : ∃ us', us' = markF us (J.dat.nf t) (J.dat.m t) := ⟨_, rfl⟩
                rw [← hus'] at b3
                have M3 := HT.out.next Lo
                have HP := pendfit_any J.dat us' (gs J.dat t).ps u26 (wt.heap.size + 2) nb (G + 2) J.n wr (by omega) M3.pnd (HC.out.1.pkn M3.bel (gs_ps ht))
                have s3 := lt_of_block b3
                clear o0 o1 o2 o3 o4 o5 o6 o7
                have o0 : wr.cell? ⟨w2.heap.size, 0, none⟩ = some (.bool (us' 0)) := (cells_at b3 0).trans (usA_at us' 0 (by decide))
                have o1 : wr.cell? ⟨w2.heap.size, 1, none⟩ = some (.bool (us' 1)) := (cells_at b3 1).trans (usA_at us' 1 (by decide))
                have o2 : wr.cell? ⟨w2.heap.size, 2, none⟩ = some (.bool (us' 2)) := (cells_at b3 2).trans (usA_at us' 2 (by decide))
                have o3 : wr.cell? ⟨w2.heap.size, 3, none⟩ = some (.bool (us' 3)) := (cells_at b3 3).trans (usA_at us' 3 (by decide))
                have o4 : wr.cell? ⟨w2.heap.size, 4, none⟩ = some (.bool (us' 4)) := (cells_at b3 4).trans (usA_at us' 4 (by decide))
                have o5 : wr.cell? ⟨w2.heap.size, 5, none⟩ = some (.bool (us' 5)) := (cells_at b3 5).trans (usA_at us' 5 (by decide))
                have o6 : wr.cell? ⟨w2.heap.size, 6, none⟩ = some (.bool (us' 6)) := (cells_at b3 6).trans (usA_at us' 6 (by decide))
                have o7 : wr.cell? ⟨w2.heap.size, 7, none⟩ = some (.bool (us' 7)) := (cells_at b3 7).trans (usA_at us' 7 (by decide))
                have HV := hide (show _ ∧ _ ∧ _ from ⟨hus', M3, b3⟩)
                clear L3 Lo M3 hus' b3
                cases hp : pendFit J.dat us' (gs J.dat t).ps with
                | false =>
                  rw [hp] at HP
                  have HP' := hide HP
                  have Hp := hide hp
                  clear HP hp
                  go_wp2_with (go_at_call 11; go_loud (refine HP'.out.mono ?_; rintro e w4 ⟨rfl, l4⟩; have M4 := hide (HV.out.2.1.next l4); clear l4 HP'))
                  case roundEnd =>
                    refine ⟨⟨t + 1, by omega, by simp, ?_⟩, by simp [intOf]; omega⟩
                    have hgs := gs_nf (by have := HN.out; omega) Hc.out (.inr (by rw [← HU.out.1, ← HV.out.1]; exact Hp.out))
                    rw [hgs]
                    exact M4.out
                | true =>
                  rw [hp] at HP
                  have HP' := hide HP
                  have Hp := hide hp
                  clear HP hp
                  go_upto_region 80 with (go_at_call 11; go_loud (refine HP'.out.mono ?_; rintro e w4 ⟨rfl, l4⟩; have M4 := hide (HV.out.2.1.next l4); have b4 := (l4.block _ s3).trans HV.out.2.2; have s4 := M4.out.sz; have k4 := M4.out.exc t hlt; have f4 := M4.out.exf t; clear l4 HP'))
                  have hocc4 := M4.out.occ
                  rw [← HU.out.1] at hocc4
                  clear o0 o1 o2 o3 o4 o5 o6 o7
                  have o0 : w4.cell? ⟨w2.heap.size, 0, none⟩ = some (.bool (us' 0)) := (cells_at b4 0).trans (usA_at us' 0 (by decide))
                  have c0 : w4.cell? ⟨wt.heap.size, 0, none⟩ = some (.bool (us 0)) := (cells_at hocc4 0).trans (usA_at us 0 (by decide))
                  have o1 : w4.cell? ⟨w2.heap.size, 1, none⟩ = some (.bool (us' 1)) := (cells_at b4 1).trans (usA_at us' 1 (by decide))
                  have c1 : w4.cell? ⟨wt.heap.size, 1, none⟩ = some (.bool (us 1)) := (cells_at hocc4 1).trans (usA_at us 1 (by decide))
                  have o2 : w4.cell? ⟨w2.heap.size, 2, none⟩ = some (.bool (us' 2)) := (cells_at b4 2).trans (usA_at us' 2 (by decide))
                  have c2 : w4.cell? ⟨wt.heap.size, 2, none⟩ = some (.bool (us 2)) := (cells_at hocc4 2).trans (usA_at us 2 (by decide))
                  have o3 : w4.cell? ⟨w2.heap.size, 3, none⟩ = some (.bool (us' 3)) := (cells_at b4 3).trans (usA_at us' 3 (by decide))
                  have c3 : w4.cell? ⟨wt.heap.size, 3, none⟩ = some (.bool (us 3)) := (cells_at hocc4 3).trans (usA_at us 3 (by decide))
                  have o4 : w4.cell? ⟨w2.heap.size, 4, none⟩ = some (.bool (us' 4)) := (cells_at b4 4).trans (usA_at us' 4 (by decide))
                  have c4 : w4.cell? ⟨wt.heap.size, 4, none⟩ = some (.bool (us 4)) := (cells_at hocc4 4).trans (usA_at us 4 (by decide))
                  have o5 : w4.cell? ⟨w2.heap.size, 5, none⟩ = some (.bool (us' 5)) := (cells_at b4 5).trans (usA_at us' 5 (by decide))
                  have c5 : w4.cell? ⟨wt.heap.size, 5, none⟩ = some (.bool (us 5)) := (cells_at hocc4 5).trans (usA_at us 5 (by decide))
                  have o6 : w4.cell? ⟨w2.heap.size, 6, none⟩ = some (.bool (us' 6)) := (cells_at b4 6).trans (usA_at us' 6 (by decide))
                  have c6 : w4.cell? ⟨wt.heap.size, 6, none⟩ = some (.bool (us 6)) := (cells_at hocc4 6).trans (usA_at us 6 (by decide))
                  have o7 : w4.cell? ⟨w2.heap.size, 7, none⟩ = some (.bool (us' 7)) := (cells_at b4 7).trans (usA_at us' 7 (by decide))
                  have c7 : w4.cell? ⟨wt.heap.size, 7, none⟩ = some (.bool (us 7)) := (cells_at hocc4 7).trans (usA_at us 7 (by decide))
                  have fo := frozen_at hocc4
                  have HO := hide hocc4
                  have s5 := lt_of_block b4
                  clear hocc4 b4
                  go_wp2_with fail
                  case roundEnd =>
                    refine ⟨⟨t + 1, by omega, by simp, ?_⟩, by simp [intOf]; omega⟩
                    have hgs := gs_nt (by have := HN.out; omega) Hc.out (by rw [← HU.out.1]; exact Hf.out) (by rw [← HU.out.1, ← HV.out.1]; exact Hp.out)
                    rw [hgs, show J.dat.pk t = (b : Int) from HA.out.2.1, ← HU.out.1, ← HV.out.1]
                    refine Mst.put (g := ⟨us', (gs J.dat t).ps, (gs J.dat t).ch⟩) ?_ hlt b
                    exact M4.out.occs ((But.refl _ _).setCells (by simp) [.bool (us' 0), .bool (us' 1), .bool (us' 2), .bool (us' 3), .bool (us' 4), .bool (us' 5), .bool (us' 6), .bool (us' 7)] 0) (occ_store HO.out)

    · have hte : t = J.n := by omega
      subst hte
      clear Mt
      go_wp2_with fail
      refine Met.intro (hJ.out _ _ ?_)
      exact tailC19 J A w w9 wt G jb bb nb pcv _ ap _ _ _ _ _ _ _ _ _ _ _ _ _ _ _ _ _ _ _ _ _ _ _ _ _ _ _ _ _ _ _ _ _ _ _ _ _ _ _ _ _ _ _ _ _ _ _ _ _ _ _ _ _ _ _ _ _ _ _ _ _ _ _ _ _ _ _ _ _ _ _ _ _ _ _ _ _ _ _ _ _ _ _ _ _ _ _ _ _ _ _ _ _ _ _ _ _ _ _ _ _ _ _ _ _ _ _ _ _ _ _ _ _ _ _ _ _ _ _ _ _ _ _ _ _ _ _ _ _ _ _ _ _ _ _ _ _ _ _ _ _ _ _ _ _ _ _ _ _ _ _ _ _ _ _ _ _ _ _ _ _ _ _ _ _ _ _ _ _ _ _ _ _ _ _ _ _ _ _ _ _ _ _ _ _ _ _ _ _ _ _ _ _ _ _ _ _ _ _ _ _ _ _ _ _ _ _ _ _ _ _ _ _ _ _ _ _ _ _ _ _ _ _ _ _ _ _ _ _ _ _ _ _ _ _ _ _ _ _ _ _ _ _ _ _ _ _ _ _ _ _ _ _ _ _ _ _ _ _ _ _ _ _ _ _ _ _ _ _ _ _ _ _ _ _ _ _ _ _ _ wo HC.out.2 HC.out.1 HT.out

end Go.Proofs.Ybulkbfpk
