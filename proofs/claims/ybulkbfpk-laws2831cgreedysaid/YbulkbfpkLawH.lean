import Derived.Test.YbulkbfpkLawG
namespace Go.Proofs.Ybulkbfpk
open Go.RowKit Go.Shelf
theorem store_float (W : World) (b o : Nat) (u : Value) (hu : W.cell? ⟨b, o, none⟩ = some u) (hz : W.frozen? ⟨b, o, none⟩ = false) : (store ⟨b, o, none⟩ (.float .f64 0)).run Yba.prog W = .ok () (W.setCell ⟨b, o, none⟩ (.float .f64 0)) := by
  rw [run_store Yba.prog W _ _ _ rfl]
  simp [hu, hz]
set_option maxRecDepth 100000 in
set_option maxHeartbeats 2000000 in
theorem tailC7 (J : JIn) (A : JAd) (w : World) (G : Nat) (jb0 bb0 nb0 : Nat → Nat) (u1 u2 u3 u4 u5 u6 u11 u12 u13 u14 u15 u16 u17 u18 u19 u20 u21 u22 u23 u24 u25 u26 u27 u28 u29 u30 u31 u32 u33 u34 u35 u36 u37 u38 u39 u40 u41 u42 u43 u44 u45 u46 u47 u48 u49 u50 u51 u52 u53 u54 u55 u56 u57 u58 u59 u60 u61 u62 u63 u64 u65 u66 u67 u68 u69 u70 u71 u72 u73 u74 u75 u76 u77 u78 u79 u80 u81 u82 u83 u84 u85 u86 u87 u88 u89 u90 u91 u92 u93 u94 u95 u96 u97 u98 u99 u100 u101 u102 u103 u104 u105 u106 u107 u108 u109 u110 u111 u112 u113 u114 u115 u116 u117 u118 u119 u120 u121 u122 u123 u124 u125 u126 u127 u128 u129 u130 u131 u132 u133 u134 u135 u136 u137 u138 u139 u140 u141 u142 u143 u144 u145 u146 u147 u148 u149 u150 u151 u152 u153 u154 u155 u156 u157 u158 u159 u160 u161 u162 u163 u164 u165 u166 u167 u168 u169 u170 u171 u172 u173 u174 u175 u176 u177 u178 u179 u180 u181 u182 u183 u184 u185 u186 u187 u188 u189 u190 u191 u192 u193 u194 u195 u196 u197 u198 u199 u200 u201 u202 u203 u204 u205 u206 u207 u208 u209 u210 u211 u212 u213 u214 u215 u216 u217 u218 u219 u220 u221 u222 u223 u224 u225 u226 u227 u228 u229 u230 u231 u232 u233 u234 u235 u236 u237 u238 u239 u240 u241 u242 u243 u244 u245 u246 u247 u248 u249 u250 u251 u252 u253 u254 u255 u256 u257 u258 u259 u260 u261 u262 u263 u264 u265 u266 u267 u268 u269 u270 u271 u272 u273 u274 u275 u276 u277 u278 u279 u280 u281 u282 u283 u284 u285 u286 u287 u288 u289 u290 u291 : Value) (wx : World) (E : EnvJ J A w) (hB : Bnd J) (hG : w.heap.size ≤ G) (hb : Bj J G 0 jb0 bb0 nb0 wx) (hbel : Below w.heap.size w wx) :
    Code.wp Yba.prog ((Yba.f4.body.bind (dropS 7)).getD .skip) (bodyPost Yba.prog Yba.f4 fun e w' => e = .returned (.bool true) ∧ Below w.heap.size w w') ⟨#[.slice A.a0 J.n A.cap, u1, u2, u3, u4, u5, u6, .int .i64 J.n, .slice (some ⟨G, 0, none⟩) J.n J.n, .slice (some ⟨G + 1, 0, none⟩) J.n J.n, .slice (some ⟨G + 2, 0, none⟩) J.n J.n, u11, u12, u13, u14, u15, u16, u17, u18, u19, u20, u21, u22, u23, u24, u25, u26, u27, u28, u29, u30, u31, u32, u33, u34, u35, u36, u37, u38, u39, u40, u41, u42, u43, u44, u45, u46, u47, u48, u49, u50, u51, u52, u53, u54, u55, u56, u57, u58, u59, u60, u61, u62, u63, u64, u65, u66, u67, u68, u69, u70, u71, u72, u73, u74, u75, u76, u77, u78, u79, u80, u81, u82, u83, u84, u85, u86, u87, u88, u89, u90, u91, u92, u93, u94, u95, u96, u97, u98, u99, u100, u101, u102, u103, u104, u105, u106, u107, u108, u109, u110, u111, u112, u113, u114, u115, u116, u117, u118, u119, u120, u121, u122, u123, u124, u125, u126, u127, u128, u129, u130, u131, u132, u133, u134, u135, u136, u137, u138, u139, u140, u141, u142, u143, u144, u145, u146, u147, u148, u149, u150, u151, u152, u153, u154, u155, u156, u157, u158, u159, u160, u161, u162, u163, u164, u165, u166, u167, u168, u169, u170, u171, u172, u173, u174, u175, u176, u177, u178, u179, u180, u181, u182, u183, u184, u185, u186, u187, u188, u189, u190, u191, u192, u193, u194, u195, u196, u197, u198, u199, u200, u201, u202, u203, u204, u205, u206, u207, u208, u209, u210, u211, u212, u213, u214, u215, u216, u217, u218, u219, u220, u221, u222, u223, u224, u225, u226, u227, u228, u229, u230, u231, u232, u233, u234, u235, u236, u237, u238, u239, u240, u241, u242, u243, u244, u245, u246, u247, u248, u249, u250, u251, u252, u253, u254, u255, u256, u257, u258, u259, u260, u261, u262, u263, u264, u265, u266, u267, u268, u269, u270, u271, u272, u273, u274, u275, u276, u277, u278, u279, u280, u281, u282, u283, u284, u285, u286, u287, u288, u289, u290, u291], []⟩ wx := by
  conv => arg 2; whnf
  let Q' : Exit → Act → World → Prop := (bodyPost Yba.prog Yba.f4 fun e w' => e = .returned (.bool true) ∧ Below w.heap.size w w')
  show Code.wp Yba.prog _ Q' _ _
  refine seq_cut fun J' K hJ hK => ?_
  have hn1 := hB.n1
  go_wp2_with fail
  go_loopw [72] (fun iv wr => ∃ (t : Nat) (jb bb nb : Nat → Nat), t ≤ J.n ∧ iv = .int .i64 t ∧ Bj J G t jb bb nb wr ∧ Below w.heap.size w wr) (fun iv _ => J.n - (intOf iv).toNat)
  case atStart => exact ⟨0, _, _, _, Nat.zero_le _, rfl, hb, hbel⟩
  case round =>
    obtain ⟨t, jb, bb, nb, ht, rfl, Bt, Lt⟩ := hrel
    obtain ⟨wo, hwo⟩ : ∃ wo, wo = wr := ⟨_, rfl⟩
    subst hwo
    have HT := hide (show _ ∧ _ from ⟨Bt, Lt⟩)
    by_cases hlt : t < J.n
    · have E2 := E.next Lt
      have hadr : A.a0 = some ⟨A.ib, A.io, none⟩ := by
        rcases E.adr with h | h
        · omega
        · exact h
      have k0 := E2.c0 t hlt
      have k1 := E2.c1 t hlt
      have k2 := E2.c2 t hlt
      have hbt := hB.b1 t hlt
      have hsz := Bt.sz
      have HA := hide hadr
      rw [hadr]
      clear E2 hadr Bt Lt
      go_upto_if 78 with fail
      go_cut [11, 12, 13] (fun t11 p12 v13 w2 => t11 = .int .i64 t ∧ p12 = .pointer (some ⟨wo.heap.size, 0, none⟩) ∧ v13 = .int .i64 (if J.core t then 0 else 1) ∧ Below wo.heap.size wo w2 ∧ w2.heap[wo.heap.size]? = some (.cells #[.bool (J.core t), .slice (A.ba t) (J.bn t) (A.bc t), .int .i8 (J.pi t)] 95))
      case first =>
        have hnew := newBlock wo (.cells #[.bool (J.core t), .slice (A.ba t) (J.bn t) (A.bc t), .int .i8 (J.pi t)] 95)
        have hbel2 := (Below.refl wo.heap.size wo).alloc (Nat.le_refl _) (.cells #[.bool (J.core t), .slice (A.ba t) (J.bn t) (A.bc t), .int .i8 (J.pi t)] 95)
        have HH := hide (show _ ∧ _ from ⟨hbel2, hnew⟩)
        clear hnew hbel2
        cases hc : J.core t with
        | true =>
          rw [hc] at HH
          go_wp2_with fail
          go_meet
          case rel => exact ⟨rfl, rfl, by rw [hc]; rfl, HH.out.1, by rw [hc]; exact HH.out.2⟩
        | false =>
          rw [hc] at HH
          go_wp2_with fail
          go_meet
          case rel => exact ⟨rfl, rfl, by rw [hc]; rfl, HH.out.1, by rw [hc]; exact HH.out.2⟩
      case rest =>
        obtain ⟨rfl, rfl, rfl, l2, n2⟩ := hcut
        clear k0 k1 k2
        generalize hcv : (if J.core t = true then (0 : Int) else 1) = cv at *
        have Hcv := hide hcv
        clear hcv
        have c1 := cells_at n2 1
        have c2 := cells_at n2 2
        simp only [List.getElem?_toArray, List.getElem?_cons_zero, List.getElem?_cons_succ] at c1 c2
        have hszM := lt_of_block n2
        obtain ⟨C, hC0, hC⟩ := make99 (J.bn t) (by omega) wc
        have H2 := hide (show _ ∧ _ ∧ _ from ⟨l2, n2, hC0⟩)
        clear l2 n2 hC0
        go_upto_region 26 with (at_make; refine wpList_make_eq rfl 99 _ _ rfl _ hC ?_)
        have B0 : Bb J t wc.heap.size 0 (fun _ => 0) wo.heap.size (wc.alloc (.cells C 102)) := by
          have hn := newBlock wc (.cells C 102)
          refine ⟨fun q hq j hj => ?_, frozen_at hn, fun q hq => by omega, fun q hq => by omega, ⟨by omega, by simp⟩, fun q hq => by omega⟩
          obtain ⟨u, hu⟩ := H2.out.2.2 q hq j hj
          exact ⟨u, (cells_at hn _).trans hu⟩
        have L3 : Below wo.heap.size wo (wc.alloc (.cells C 102)) := H2.out.1.alloc (by omega) _
        have n3 : (wc.alloc (.cells C 102)).heap[wo.heap.size]? = some (.cells #[.bool (J.core t), .slice (A.ba t) (J.bn t) (A.bc t), .int .i8 (J.pi t)] 95) := (Below.heap_alloc _ _ _ hszM).trans H2.out.2.1
        generalize hw3 : wc.alloc (.cells C 102) = w3 at *
        generalize hBB : wc.heap.size = BB at *
        have d1 := cells_at n3 1
        have d2 := cells_at n3 2
        simp only [List.getElem?_toArray, List.getElem?_cons_zero, List.getElem?_cons_succ] at d1 d2
        have H3 := hide (show _ ∧ _ ∧ _ from ⟨B0, L3, n3⟩)
        clear B0 L3 n3 hC hw3 H2 c1 c2 hBB
        go_wp2_with fail
        clear d1 d2
        go_loopw [86] (fun iv w4 => ∃ (k : Nat) (ndb : Nat → Nat), k ≤ J.bn t ∧ iv = .int .i64 k ∧ Bb J t BB k ndb wo.heap.size w4 ∧ Below wo.heap.size wo w4 ∧ w4.heap[wo.heap.size]? = some (.cells #[.bool (J.core t), .slice (A.ba t) (J.bn t) (A.bc t), .int .i8 (J.pi t)] 95)) (fun iv _ => J.bn t - (intOf iv).toNat)
        case atStart => exact ⟨0, _, Nat.zero_le _, rfl, H3.out.1, H3.out.2.1, H3.out.2.2⟩
        case round =>
          obtain ⟨k, ndb, hk, rfl, Bk, Lk, nk⟩ := hrel
          obtain ⟨wk, hwk⟩ : ∃ wk, wk = wr := ⟨_, rfl⟩
          subst hwk
          have H4 := hide (show _ ∧ _ ∧ _ from ⟨Bk, Lk, nk⟩)
          by_cases hkl : k < J.bn t
          · have Lw := HT.out.2.trans (Lk.mono HT.out.2.size)
            have E4 := E.next Lw
            obtain ⟨b, o, hba, hcs⟩ : ∃ b o, A.ba t = some ⟨b, o, none⟩ ∧ ∀ k, k < J.bn t → _ = some (Value.slice (A.ra t k) (J.rn t k) (A.rc t k)) := by
              rcases E4.bid t hlt with h | h
              · omega
              · exact h
            have cb := hcs k hkl
            have hrt := hB.r1 t hlt k hkl
            obtain ⟨C, hC1, hC0, hC⟩ := make23 (J.rn t k) (by omega) wk
            have HBa := hide hba
            have HE4 := hide (show _ ∧ _ from ⟨E4, Lw⟩)
            rw [hba]
            clear hcs E4 hba Lw
            have bk2 := Bk.bb
            have szk := lt_of_block nk
            clear Bk Lk nk
            go_upto_region 30 with (at_make; refine wpList_make_eq rfl 23 _ _ rfl _ hC ?_)
            have hnN := newBlock wk (.cells C 3)
            have L5 := (Below.refl wk.heap.size wk).alloc (Nat.le_refl _) (.cells C 3)
            have c5 : ∀ q, q < J.rn t k → (wk.alloc (.cells C 3)).cell? ⟨wk.heap.size, q, none⟩ = some (.int .i64 0) := fun q hq => (cells_at hnN q).trans (hC0 q hq)
            have f5 := frozen_at hnN
            have s5 : wk.heap.size < (wk.alloc (.cells C 3)).heap.size := by simp
            have H5 := hide (show _ ∧ _ ∧ _ ∧ _ from ⟨L5, c5, f5, s5⟩)
            generalize hw5 : wk.alloc (.cells C 3) = w5 at *
            clear hnN L5 c5 f5 s5 hw5 hC hC0 hC1
            go_wp2_with fail
            go_loopw [96] (fun iv w6 => ∃ i : Nat, i ≤ J.rn t k ∧ iv = .int .i64 i ∧ Below wk.heap.size wk w6 ∧ (∀ q, q < J.rn t k → w6.cell? ⟨wk.heap.size, q, none⟩ = some (.int .i64 (if q < i then (J.nd t k q : Int) else 0))) ∧ (∀ o, w6.frozen? ⟨wk.heap.size, o, none⟩ = false) ∧ wk.heap.size < w6.heap.size) (fun iv _ => J.rn t k - (intOf iv).toNat)
            case atStart => exact ⟨0, Nat.zero_le _, rfl, H5.out.1, fun q hq => by rw [if_neg (by omega)]; exact H5.out.2.1 q hq, H5.out.2.2.1, H5.out.2.2.2⟩
            case round =>
              obtain ⟨i, hi, rfl, L6, c6, f6, s6⟩ := hrel
              have H6 := hide (show _ ∧ _ ∧ _ ∧ _ from ⟨L6, c6, f6, s6⟩)
              by_cases hil : i < J.rn t k
              · obtain ⟨rb, ro, hra, hrs⟩ : ∃ rb ro, A.ra t k = some ⟨rb, ro, none⟩ ∧ ∀ i, i < J.rn t k → wk.cell? ⟨rb, ro + i, none⟩ = some (.int .u8 (J.xv t k i)) := by
                  rcases HE4.out.1.raw t hlt k hkl with h | h
                  · omega
                  · exact h
                have hx := hrs i hil
                have cx := (World.cell?_of_block (a := ⟨rb, ro + i, none⟩) (L6.block _ (lt_of_cell hx))).trans hx
                have ci := c6 i hil
                rw [if_neg (by omega)] at ci
                have fi := f6 i
                obtain ⟨xb0, xb1⟩ := E.xb t hlt k hkl i hil
                have HRa := hide hra
                rw [hra]
                clear hrs hra hx L6 c6 f6
                go_wp2_with fail
                case roundEnd =>
                  refine ⟨⟨i + 1, by omega, by simp, H6.out.1.setCell (p := ⟨wk.heap.size, i, none⟩) (Nat.le_refl _) _, fun q hq => ?_, fun o => (World.frozen?_setCell _ _ _ _).trans (H6.out.2.2.1 o), by simpa [World.setCell] using H6.out.2.2.2⟩, by simp [intOf]; omega⟩
                  by_cases e : q = i
                  · subst e
                    rw [if_pos (by omega), World.cell?_setCell_same _ _ _ (H6.out.2.1 q hq)]
                    have : ((J.nd t k q : Nat) : Int) = J.xv t k q % 8 := by unfold JIn.nd; omega
                    rw [this]
                  · rw [cell_set_ne (by omega), H6.out.2.1 q hq]
                    by_cases e2 : q < i
                    · rw [if_pos e2, if_pos (by omega)]
                    · rw [if_neg e2, if_neg (by omega)]
              · have hie : i = J.rn t k := by omega
                subst hie
                have B6 := H4.out.1.next L6
                obtain ⟨y0, e0⟩ := B6.ex k hkl 0 (by decide)
                obtain ⟨y1, e1⟩ := B6.ex k hkl 1 (by decide)
                obtain ⟨y2, e2⟩ := B6.ex k hkl 2 (by decide)
                simp only [Nat.add_zero] at e0
                have fB := B6.fz
                have HB6 := hide B6
                have hstf := store_float ((wr.setCell ⟨BB, k * 3, none⟩ (.slice (some ⟨wk.heap.size, 0, none⟩) (J.rn t k) (J.rn t k))).setCell ⟨BB, k * 3 + 1, none⟩ (.int .i64 0)) BB (k * 3 + 2) y2 ((cell_set_ne (by omega)).trans ((cell_set_ne (by omega)).trans e2)) (by rw [World.frozen?_setCell, World.frozen?_setCell]; exact fB _)
                clear L6 c6 f6 B6
                go_wp2_with fail
                case roundEnd =>
                  have hput := HB6.out.put (N := wk.heap.size) hkl ⟨by omega, H6.out.2.2.2, by omega⟩ (fun i hi => by
                    have := H6.out.2.1 i hi
                    rw [if_pos hi] at this
                    exact this)
                  have hLf : Below wo.heap.size wo (wr.setCells BB (k * 3) [.slice (some ⟨wk.heap.size, 0, none⟩) (J.rn t k) (J.rn t k), .int .i64 0, .float .f64 0]) := below_setCells (H4.out.2.1.trans (H6.out.1.mono H4.out.2.1.size)) bk2.1 _ _
                  refine ⟨⟨k + 1, upd ndb k wk.heap.size, by omega, by simp, hput, hLf, ?_⟩, by simp [intOf]; omega⟩
                  have hne : wo.heap.size ≠ BB := by omega
                  have hfin := (heap_setCells BB [.slice (some ⟨wk.heap.size, 0, none⟩) (J.rn t k) (J.rn t k), .int .i64 0, .float .f64 0] (k * 3) wr _ hne).trans ((H6.out.1.block _ szk).trans H4.out.2.2)
                  rw [HBa.out] at hfin
                  exact hfin
          · have hke : k = J.bn t := by omega
            subst hke
            have Bw := HT.out.1.next Lk
            obtain ⟨y0, e0⟩ := Bw.ex t hlt 0 (by decide)
            obtain ⟨y1, e1⟩ := Bw.ex t hlt 1 (by decide)
            obtain ⟨y2, e2⟩ := Bw.ex t hlt 2 (by decide)
            obtain ⟨y3, e3⟩ := Bw.ex t hlt 3 (by decide)
            obtain ⟨y4, e4⟩ := Bw.ex t hlt 4 (by decide)
            simp only [Nat.add_zero] at e0
            have fG0 := fun o => Bw.fz G o (Nat.le_refl _) (by omega)
            have fG1 := fun o => Bw.fz (G + 1) o (by omega) (by omega)
            have fG2 := fun o => Bw.fz (G + 2) o (by omega) (by omega)
            have cp := Bw.pks t hlt
            have cn := Bw.pns t hlt
            rw [if_neg (by omega)] at cp cn
            have ck2 := cells_at nk 2
            simp only [List.getElem?_toArray, List.getElem?_cons_zero, List.getElem?_cons_succ] at ck2
            have szk := lt_of_block nk
            obtain ⟨pb0, pb1⟩ := E.pb t hlt
            have HW := hide (show _ ∧ _ from ⟨Bw, Bk⟩)
            have hwsz := Bw.sz
            have g0 : G < wk.heap.size := by omega
            have g1 : G + 1 < wk.heap.size := by omega
            have g2 : G + 2 < wk.heap.size := by omega
            have gB : BB < wk.heap.size := Bk.bb.2
            have gB0 : wo.heap.size ≤ BB := Bk.bb.1
            clear Bk Lk nk Bw
            go_upto_region 37 with fail
            go_cut [11, 12, 13, 14] (fun t11 p12 _ s14 w7 => t11 = .int .i64 t ∧ p12 = .pointer (some ⟨wo.heap.size, 0, none⟩) ∧ s14 = .slice (some ⟨BB, 0, none⟩) (J.bn t) (J.bn t) ∧ w7 = ((wk.setCells G (t * 5) [.int .i64 t, .pointer (some ⟨wk.heap.size, 0, none⟩), .int .i64 0, .int .i64 0, .slice (some ⟨BB, 0, none⟩) (J.bn t) (J.bn t)]).alloc (.cells #[.string { data := #[] }, .int .i64 0, .int .i64 cv, .int .i64 0, .int .i64 0, .int .i64 0, .int .i64 0, .int .i64 0, .string { data := #[] }, .bool false, .int .i64 0, .int .i64 0, .int .i64 0, .int .i64 0] 104)))
            case first =>
              go_wp2_with fail
              go_meet
              case rel => exact ⟨rfl, rfl, rfl, rfl⟩
            case rest =>
              obtain ⟨rfl, rfl, rfl, hw7⟩ := hcut
              have hb7 : But [G] wk wc := by rw [hw7]; exact ((But.refl _ _).setCells (by simp) _ _).alloc _
              have cp7 := hb7.cell (b := G + 1) (o := t) (by simp) cp
              have cn7 := hb7.cell (b := G + 2) (o := t) (by simp) cn
              have ck7 := hb7.cell (b := wo.heap.size) (o := 2) (by simp only [List.mem_singleton]; omega) ck2
              have f71 := fun o => (hb7.frozen (b := G + 1) (o := o) (by simp) g1).trans (fG1 o)
              have f72 := fun o => (hb7.frozen (b := G + 2) (o := o) (by simp) g2).trans (fG2 o)
              have LW : Below w.heap.size w wc := by
                rw [hw7]
                exact (below_setCells (HT.out.2.trans (H4.out.2.1.mono HT.out.2.size)) hG _ _).alloc (by rw [size_setCells]; omega) _
              have LW := hide LW
              have H7 := hide (show _ ∧ _ from ⟨hw7, hb7⟩)
              clear hw7 hb7 e0 e1 e2 e3 e4 fG0 fG1 fG2 cp cn ck2
              cases hp : J.picked t with
              | false =>
                have hp1 : J.bn t = 0 ∨ (0 < J.bn t ∧ J.pi t < 0) := by
                  simp only [JIn.picked, Bool.and_eq_false_iff, decide_eq_false_iff_not] at hp
                  omega
                rcases hp1 with hp1 | hp1
                · go_wp2_with fail
                  case roundEnd =>
                    obtain ⟨nbt, hB'⟩ := HW.out.1.fin0 HW.out.2 hsz hlt cv Hcv.out H7.out.1 hp
                    refine ⟨⟨t + 1, _, _, _, by omega, by simp, hB', ?_⟩, by simp [intOf]; omega⟩
                    exact LW.out.setCell (p := ⟨G + 1, t, none⟩) (by show _ ≤ G + 1; omega) _
                · obtain ⟨hp1, hp2⟩ := hp1
                  go_wp2_with fail
                  case roundEnd =>
                    obtain ⟨nbt, hB'⟩ := HW.out.1.fin0 HW.out.2 hsz hlt cv Hcv.out H7.out.1 hp
                    refine ⟨⟨t + 1, _, _, _, by omega, by simp, hB', ?_⟩, by simp [intOf]; omega⟩
                    exact LW.out.setCell (p := ⟨G + 1, t, none⟩) (by show _ ≤ G + 1; omega) _
              | true =>
                have hp1 := hp
                simp only [JIn.picked, Bool.and_eq_true, decide_eq_true_eq] at hp1
                obtain ⟨hp1, hp2⟩ := hp1
                have hbn : (J.bn t : Int) ≤ 300 := by omega
                go_upto_region 41 with fail
                obtain ⟨b, hb1, hb2⟩ := JIn.pk_nat hp
                have hz : J.pi t % (J.bn t : Int) = b := by
                  rw [← hb1]; simp [JIn.pk, hp]
                have chd := H7.out.2.cell (b := BB) (o := b * 3) (by simp only [List.mem_singleton]; omega) (HW.out.2.hd b hb2)
                have gBc : BB < wc.heap.size := lt_of_cell chd
                have Hz := hide (show _ ∧ _ from ⟨hz, hb1⟩)
                rw [hz]
                clear hz hb1 hp1 hp2 ck7 hp pb0 pb1
                go_wp2_with fail
                case roundEnd =>
                  obtain ⟨nbt, hB'⟩ := HW.out.1.fin1 HW.out.2 hsz hlt cv Hcv.out H7.out.1 (by have := Hz.out.2; have h := JIn.pk_iff (J := J) (t := t); cases hq : J.picked t with | true => rfl | false => (have := h.2 hq; omega)) b Hz.out.2 b rfl
                  refine ⟨⟨t + 1, _, _, _, by omega, by simp, hB', ?_⟩, by simp [intOf]; omega⟩
                  exact ((LW.out.setCell (p := ⟨G + 1, t, none⟩) (by show _ ≤ G + 1; omega) _).setCell (p := ⟨G + 1, t, none⟩) (by show _ ≤ G + 1; omega) _).setCell (p := ⟨G + 2, t, none⟩) (by show _ ≤ G + 2; omega) _
    · have hte : t = J.n := by omega
      subst hte
      clear Bt Lt
      go_wp2_with fail
      refine Met.intro (hJ.out _ _ ?_)
      exact tailC8 J A w G jb bb nb _ _ _ _ _ _ _ _ _ _ _ _ _ _ _ _ _ _ _ _ _ _ _ _ _ _ _ _ _ _ _ _ _ _ _ _ _ _ _ _ _ _ _ _ _ _ _ _ _ _ _ _ _ _ _ _ _ _ _ _ _ _ _ _ _ _ _ _ _ _ _ _ _ _ _ _ _ _ _ _ _ _ _ _ _ _ _ _ _ _ _ _ _ _ _ _ _ _ _ _ _ _ _ _ _ _ _ _ _ _ _ _ _ _ _ _ _ _ _ _ _ _ _ _ _ _ _ _ _ _ _ _ _ _ _ _ _ _ _ _ _ _ _ _ _ _ _ _ _ _ _ _ _ _ _ _ _ _ _ _ _ _ _ _ _ _ _ _ _ _ _ _ _ _ _ _ _ _ _ _ _ _ _ _ _ _ _ _ _ _ _ _ _ _ _ _ _ _ _ _ _ _ _ _ _ _ _ _ _ _ _ _ _ _ _ _ _ _ _ _ _ _ _ _ _ _ _ _ _ _ _ _ _ _ _ _ _ _ _ _ _ _ _ _ _ _ _ _ _ _ _ _ _ _ _ _ _ _ _ _ _ _ _ _ _ _ _ _ _ _ _ _ _ _ _ _ _ _ _ _ _ _ _ _ _ _ _ wo E hB hG HT.out.1 HT.out.2

end Go.Proofs.Ybulkbfpk
