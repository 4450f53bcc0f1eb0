import Derived.Test.YbulkbfoiRunE
namespace Go.Proofs.Ybulkbfoi
open Go.RowKit
set_option linter.unusedSimpArgs false
set_option linter.unusedVariables false
set_option maxRecDepth 100000 in
set_option maxHeartbeats 2000000 in
theorem tail7 (a0 a1 a2 a3 : Option Addr) (len0 cap0 len1 cap1 len2 cap2 len3 cap3 : Nat) (q qid : Int) (w : World) (n : Nat) (ids md : Nat → Int) (ds ps : List Int)  (u6 u7 u8 u9 u10 u11 u17 u18 u19 u20 u21 u22 u23 u24 u25 u26 u27 u28 u29 u30 u31 u32 u33 u34 u35 u36 u37 u38 u39 u40 u41 u42 u43 u44 u45 u46 u47 u48 u49 u50 u51 u52 u53 u54 u55 u56 u57 u58 u59 u60 u61 u62 u63 u64 u65 u66 u67 u68 u69 u70 u71 u72 u73 u74 u75 u76 u77 u78 u79 u80 u81 u82 u83 u84 u85 u86 u87 u88 u89 u90 u91 u92 u93 u94 u95 u96 u97 u98 u99 u100 u101 u102 u103 u104 u105 u106 u107 u108 u109 u110 u111 u112 u113 u114 u115 u116 u117 u118 u119 u120 u121 u122 u123 u124 u125 u126 u127 u128 u129 u130 u131 u132 u133 u134 u135 u136 u137 u138 u139 u140 u141 u142 u143 u144 u145 u146 u147 u148 u149 u150 u151 u152 u153 u154 u155 u156 u157 u158 u159 u160 u161 u162 u163 u164 u165 u166 u167 u168 u169 u170 u171 u172 u173 u174 u175 u176 u177 u178 u179 u180 u181 u182 u183 u184 u185 u186 u187 u188 u189 u190 u191 u192 u193 u194 u195 u196 u197 u198 u199 u200 u201 u202 u203 u204 u205 u206 u207 u208 u209 u210 u211 u212 u213 u214 u215 u216 u217 u218 u219 u220 u221 u222 u223 u224 u225 u226 u227 u228 u229 u230 u231 u232 u233 u234 u235 u236 u237 u238 u239 u240 u241 u242 u243 u244 u245 u246 u247 : Value) (wx : World) (E : Env a0 a1 a2 a3 len0 cap0 len1 cap1 len2 cap2 len3 cap3 q qid w n ids md ds ps) (M : Mem w.heap.size w n ids md ds 0 (fun _ => 0) (fun _ => none) (fun _ => none) (fun _ => 0) wx) :
    Code.wp Yba.prog ((Yba.f3.body.bind (dropS 7)).getD .skip) (bodyPost Yba.prog Yba.f3 fun e w' => e = .returned (.bool true) ∧ Below w.heap.size w w') ⟨#[.slice a0 len0 cap0, .slice a1 len1 cap1, .slice a2 len2 cap2, .slice a3 len3 cap3, .int .u8 q, .int .u64 qid, u6, u7, u8, u9, u10, u11, .bool false, .int .i64 n, .pointer (some ⟨w.heap.size + 1, 0, none⟩), .slice (some ⟨w.heap.size + 2, 0, none⟩) n n, .slice (some ⟨w.heap.size + 3, 0, none⟩) n n, u17, u18, u19, u20, u21, u22, u23, u24, u25, u26, u27, u28, u29, u30, u31, u32, u33, u34, u35, u36, u37, u38, u39, u40, u41, u42, u43, u44, u45, u46, u47, u48, u49, u50, u51, u52, u53, u54, u55, u56, u57, u58, u59, u60, u61, u62, u63, u64, u65, u66, u67, u68, u69, u70, u71, u72, u73, u74, u75, u76, u77, u78, u79, u80, u81, u82, u83, u84, u85, u86, u87, u88, u89, u90, u91, u92, u93, u94, u95, u96, u97, u98, u99, u100, u101, u102, u103, u104, u105, u106, u107, u108, u109, u110, u111, u112, u113, u114, u115, u116, u117, u118, u119, u120, u121, u122, u123, u124, u125, u126, u127, u128, u129, u130, u131, u132, u133, u134, u135, u136, u137, u138, u139, u140, u141, u142, u143, u144, u145, u146, u147, u148, u149, u150, u151, u152, u153, u154, u155, u156, u157, u158, u159, u160, u161, u162, u163, u164, u165, u166, u167, u168, u169, u170, u171, u172, u173, u174, u175, u176, u177, u178, u179, u180, u181, u182, u183, u184, u185, u186, u187, u188, u189, u190, u191, u192, u193, u194, u195, u196, u197, u198, u199, u200, u201, u202, u203, u204, u205, u206, u207, u208, u209, u210, u211, u212, u213, u214, u215, u216, u217, u218, u219, u220, u221, u222, u223, u224, u225, u226, u227, u228, u229, u230, u231, u232, u233, u234, u235, u236, u237, u238, u239, u240, u241, u242, u243, u244, u245, u246, u247], []⟩ wx := by
  conv => arg 2; whnf
  let Q' : Exit → Act → World → Prop := (bodyPost Yba.prog Yba.f3 fun e w' => e = .returned (.bool true) ∧ Below w.heap.size w w')
  show Code.wp Yba.prog _ Q' _ _
  refine seq_cut fun J K hJ hK => ?_
  go_wp2_with fail
  go_loopw [17] (fun jv wr => ∃ (j : Nat) (tid : Nat → Int) (tf fp : Nat → Option Addr) (ms : Nat → Int), j ≤ n ∧ jv = .int .i64 j ∧ Mem w.heap.size w n ids md ds j tid tf fp ms wr) (fun jv _ => n - (intOf jv).toNat)
  case atStart => exact ⟨0, _, _, _, _, Nat.zero_le _, rfl, M⟩
  case round =>
    obtain ⟨j, tid, tf, fp, ms, hj, rfl, M⟩ := hrel
    by_cases hjn : j < n
    · obtain ⟨b0, o0, ha0, hb0, hc0⟩ := E.i0 j (Nat.lt_of_lt_of_le hjn E.nl)
      have hid := (M.bel.cell (p := ⟨b0, o0 + j, none⟩) hb0).trans hc0
      have hnl := E.nl
      have hn8 := E.n8
      have HM : Hid (Mem w.heap.size w n ids md ds j tid tf fp ms wr) := M
      have HE : Hid (Env a0 a1 a2 a3 len0 cap0 len1 cap1 len2 cap2 len3 cap3 q qid w n ids md ds ps) := E
      clear M E hc0
      subst ha0
      obtain ⟨id, hide⟩ : ∃ id, id = ids j := ⟨_, rfl⟩
      rw [← hide] at hid
      have HI : Hid (id = ids j) := hide
      clear hide
      by_cases hz : (id == 0) = true
      · go_wp2_with fail
        go_roundw
        case rel => exact ⟨j + 1, tid, tf, fp, ms, by omega, by go_num, HM.out.zero (by rw [← HI.out]; simpa using hz)⟩
        case measure => simp [intOf]; omega
      · have hz' : (id == 0) = false := by simpa using hz
        go_upto_if 67 with fail
        go_cut [19] (fun v wy => v = .int .u8 (md j) ∧ wy = wr)
        case first =>
          by_cases hm : j < len1
          · obtain ⟨b1, o1, x, ha1, hb1, hc1, hx, hx0, hx1⟩ := HE.out.m1 j hm
            have hcx := (HM.out.bel.cell (p := ⟨b1, o1 + j, none⟩) hb1).trans hc1
            have hxx : x % 4 = md j := by rw [← hx]; rw [Int.tmod_eq_emod_of_nonneg hx0]
            clear hc1 hx
            subst ha1
            go_wp2_with fail
            go_meet
            exact ⟨by rw [hxx], rfl⟩
          · have hm0 := HE.out.m2 j (by omega)
            go_wp2_with fail
            go_meet
            exact ⟨by rw [hm0], rfl⟩
        case rest =>
          obtain ⟨rfl, rfl⟩ := hcut
          have hmw := HM.out.mc j hjn
          have hmz := HM.out.mz j
          go_upto_region 17 with fail
          go_cut [] (fun wy => Mem w.heap.size w n ids md ds j tid tf fp (upd ms j (md j)) wy)
          case first =>
            go_wp2_with fail
            go_meet
            exact HM.out.setms rfl hjn _
          case rest =>
            clear hmw hmz hid HM
            have HM : Hid (Mem w.heap.size w n ids md ds j tid tf fp (upd ms j (md j)) wc) := hcut
            clear hcut
            go_upto_region 18 with fail
            go_cut [20] (fun v wy => v = .pointer (some ⟨wc.heap.size, 0, none⟩) ∧ ∃ F : Array Value, wy = wc.alloc (.cells F 43) ∧ F.size = 39 ∧ F[0]? = some (.int .u64 0) ∧ F[1]? = some (.slice none 0 0) ∧ F[2]? = some (.int .u32 0) ∧ F[3]? = some (.int .u32 0))
            case first =>
              go_wp2_with fail
              go_meet
              exact ⟨rfl, _, rfl, rfl, rfl, rfl, rfl, rfl⟩
            case rest =>
              obtain ⟨rfl, F, rfl, hFs, hF0, hF1, hF2, hF3⟩ := hcut
              go_upto_region 20 with fail
              go_cut [20] (fun v wy => ∃ b, v = .pointer (some ⟨b, 0, none⟩) ∧ w.heap.size + 4 ≤ b ∧ (∀ i, i < n → fp i ≠ some ⟨b, 0, none⟩) ∧ Mem w.heap.size w n ids md ds j tid tf fp (upd ms j (md j)) wy ∧ Pre wy ds b j id 0)
              case first =>
                obtain ⟨i5, hi5, hz5, hs5, hb5⟩ := info5_parts
                have hown : ((wc.alloc (.cells (F.setIfInBounds 0 (.int .u64 id)) 43)).alloc (.cells #[.int .u8 (j + 1)] 5)).ownsRow (wc.heap.size + 1) 5 1 (.slice (some ⟨wc.heap.size + 1, 0, none⟩) 1 1) 1 [.int .u8 (j + 1)] := by
                  have := World.ownsRow_lit (e := 5) (size := 1) (base := wc.heap.size + 1) (wc.alloc (.cells (F.setIfInBounds 0 (.int .u64 id)) 43)) #[.int .u8 (j + 1)] 1 (by simp) (by decide) rfl
                  simpa using this
                have hl2 := HE.out.l2
                rcases HE.out.d2 with ⟨rfl, rfl, rfl, hds⟩ | ⟨x, rfl, hdl, hdc⟩
                · have hds0 : ds.length = 0 := by rw [hds]; rfl
                  go_wp2_with (at_builtin; go_loud (refine wpList_append_none_abs rfl (.tmp 88) (.tmp 89) 23 rfl (wc.heap.size + 1) 5 i5 1 Yba.underlying23 hi5 _ 1 [.int .u8 (j + 1)] rfl hown rfl ?_; intro w2 h1 h2; have h2 : World.grownBy _ w2 (some (wc.heap.size + 1)) := h2; have hne1 : wc.heap.size + 1 ≠ wc.heap.size := Nat.succ_ne_self _; have h2' := hide h2; have h1' := hide h1; have hg1 := (cells_at (frame_block hne1 h2) 1).trans ((Array.getElem?_setIfInBounds_ne (by omega)).trans hF1); have hg2 := frozen_at (frame_block hne1 h2) 1; clear h1 h2))
                  go_meet
                  refine ⟨_, rfl, HM.out.sz, HM.out.fresh, ?_⟩
                  obtain ⟨p1, p2⟩ := pre_of (g := wc.heap.size + 1) (cap := 1) (len2 := 0) (ds := ds) hFs hF1 hF2 hF3 hds0 (by rw [hds]; exact h1'.out) h2'.out
                  exact ⟨HM.out.next p1, p2⟩
                · have hnews : Hid (∀ k u, (ds.map (Value.int .u8))[k]? = some u → ((wc.alloc (.cells (F.setIfInBounds 0 (.int .u64 id)) 43)).alloc (.cells #[.int .u8 (j + 1)] 5)).cell? (x.add k) = some u) := by
                    intro k u hk
                    have h1 := src_news hdl hdc k u hk
                    have h2 := World.block_lt_of_cell? w _ h1
                    have h3 := HM.out.bel.size
                    rw [World.cell?_alloc_lt _ _ _ (by simp; omega), World.cell?_alloc_lt _ _ _ (by omega), HM.out.bel.cell h2]
                    exact h1
                  have hone : Hid (∀ u ∈ ds.map (Value.int .u8), u.oneCell' = true) := bytes_one ds
                  obtain ⟨nw, hnw⟩ : ∃ nw, nw = ds.map (Value.int .u8) := ⟨_, rfl⟩
                  rw [← hnw] at hnews hone
                  have HW : Hid (nw = ds.map (Value.int .u8)) := hnw
                  have hnl' : nw.length = len2 := by rw [hnw, List.length_map, hdl]
                  clear hnw hdc
                  go_wp2_with (at_builtin; go_loud (refine wpList_append_own _ rfl (.tmp 88) (.tmp 89) 23 rfl (wc.heap.size + 1) 5 i5 _ 1 1 Yba.underlying23 hi5 hz5 hs5 hb5 rfl (by decide) _ 1 [.int .u8 (j + 1)] rfl hown x len2 cap2 nw rfl (by omega) hnews.out hone.out (by unfold maxLen; omega) (by omega) (by simp) ?_; intro v w2 h1 h2 _; obtain ⟨g, cap, rfl⟩ := (own_forms h1).resolve_left (fun h => by have := h.2; omega); have h2 : World.grownBy _ w2 (some (wc.heap.size + 1)) := h2; have hne1 : wc.heap.size + 1 ≠ wc.heap.size := Nat.succ_ne_self _; have h2' := hide h2; have h1' := hide h1; have hg1 := (cells_at (frame_block hne1 h2) 1).trans ((Array.getElem?_setIfInBounds_ne (by omega)).trans hF1); have hg2 := frozen_at (frame_block hne1 h2) 1; clear h1 h2))
                  go_meet
                  refine ⟨_, rfl, HM.out.sz, HM.out.fresh, ?_⟩
                  have h1 := h1'.out
                  rw [HW.out] at h1
                  obtain ⟨p1, p2⟩ := pre_of hFs hF1 hF2 hF3 hdl h1 h2'.out
                  exact ⟨HM.out.next p1, p2⟩
              case rest =>
                obtain ⟨b, rfl, hbN, hbf, HM2, hpre⟩ := hcut
                clear HM
                have HM : Hid (Mem w.heap.size w n ids md ds j tid tf fp (upd ms j (md j)) wc) := HM2
                have HP : Hid (Pre wc ds b j id 0) := hpre
                have hp2 := hpre.c2
                have hz2 := hpre.fz 2
                clear HM2 hpre
                obtain ⟨m, hm⟩ : ∃ m, m = md j := ⟨_, rfl⟩
                rw [← hm]
                have HMD : Hid (m = md j) := hm
                clear hm
                go_upto_if 95 with fail
                go_cut [] (fun wy => Mem w.heap.size w n ids md ds j tid tf fp (upd ms j (md j)) wy ∧ Pre wy ds b j id (ldOf m))
                case first =>
                  by_cases h1 : (m == 1) = true
                  · go_wp2_with fail
                    refine (bstore_any _ _ _ _ hp2 hz2).mono ?_
                    rintro e' w' ⟨rfl, rfl⟩
                    go_wp2_with fail
                    go_meet
                    have : ldOf m = 1 := by simp [ldOf, beq_iff_eq.1 h1]
                    rw [this]
                    exact ⟨(HM.out.setb hbN HP.out.sh hbf _).drew, HP.out.load.drew⟩
                  · have h1' : (m == 1) = false := by simpa using h1
                    go_wp2_with fail
                    go_meet
                    have : ldOf m = 0 := by unfold ldOf; rw [if_neg (by simpa using h1)]
                    rw [this]
                    exact ⟨HM.out, HP.out⟩
                case rest =>
                  clear HM HP hp2 hz2
                  obtain ⟨HM2, hpre⟩ := hcut
                  have HM : Hid (Mem w.heap.size w n ids md ds j tid tf fp (upd ms j (md j)) wc) := HM2
                  have HP : Hid (Pre wc ds b j id (ldOf m)) := hpre
                  have hp0 := hpre.c0
                  have hz0 := hpre.fz 0
                  clear HM2 hpre
                  go_upto_if 102 with fail
                  go_cut [] (fun wy => Mem w.heap.size w n ids md ds j tid tf fp (upd ms j (md j)) wy ∧ Fr wy ids md ds b j 0)
                  case first =>
                    by_cases h1 : (m == 2) = true
                    · go_wp2_with fail
                      go_meet
                      exact ⟨HM.out.setb hbN HP.out.sh hbf _, (HP.out.rename _).fr (by rw [← HMD.out, ← HI.out]; simp [fidOf, beq_iff_eq.1 h1]) (by rw [← HMD.out])⟩
                    · have h1' : (m == 2) = false := by simpa using h1
                      go_wp2_with fail
                      go_meet
                      exact ⟨HM.out, HP.out.fr (by rw [← HMD.out, ← HI.out]; unfold fidOf; rw [if_neg (by simpa using h1)]) (by rw [← HMD.out])⟩
                  case rest =>
                    clear HM HP hp0 hz0
                    obtain ⟨HM2, hpre⟩ := hcut
                    have HM : Hid (Mem w.heap.size w n ids md ds j tid tf fp (upd ms j (md j)) wc) := HM2
                    have HP : Hid (Fr wc ids md ds b j 0) := hpre
                    obtain ⟨d, hf⟩ := HM2.tab.find (by omega) id
                    have hs := slot_any (w.heap.size + 1) w.heap.size id tid wc d HM2.p0 HM2.p1 HM2.tc hf.1 hf.2.1 hf.2.2
                    have hsl : (hsh id + d) % 32 < 32 := Nat.mod_lt _ (by omega)
                    have t1 := HM2.tc _ hsl
                    have t2 := HM2.tp _ hsl
                    have z1 := HM2.tz ((hsh id + d) % 32 * 2)
                    have z2 := HM2.tz ((hsh id + d) % 32 * 2 + 1)
                    have f1 := HM2.fc j hjn
                    have f2 := HM2.fz j
                    have hfb := hpre.c0
                    have HF : Hid (Finds tid id d) := hf
                    clear HM2 hpre hf
                    obtain ⟨s, hse⟩ : ∃ s, s = (hsh id + d) % 32 := ⟨_, rfl⟩
                    rw [← hse] at hs hsl t1 t2 z1 z2
                    have HS : Hid (s = (hsh id + d) % 32) := hse
                    clear hse
                    have ts1 : (wc.setCell ⟨w.heap.size, s * 2, none⟩ (.int .u64 id)).cell? ⟨w.heap.size, s * 2 + 1, none⟩ = some (.pointer (tf s)) := (cell_set_ne (by omega)).trans t2
                    have ts2 : (wc.setCell ⟨w.heap.size, s * 2, none⟩ (.int .u64 id)).frozen? ⟨w.heap.size, s * 2 + 1, none⟩ = false := (frozen_set _ _ _ _).trans z2
                    by_cases h3 : (m == 3) = true
                    · go_wp2_with fail
                      refine hs.mono ?_
                      rintro e' w' ⟨rfl, rfl⟩
                      go_wp2_with fail
                      refine (store_any _ _ _ _ _ t1 z1).mono ?_
                      rintro e' w1 ⟨rfl, rfl⟩
                      go_wp2_with fail
                      refine (pstore_nil _ _ _ _ ts1 ts2).mono ?_
                      rintro e' w1 ⟨rfl, rfl⟩
                      go_wp2_with fail
                      go_roundw
                      case rel =>
                        have e1 := HI.out
                        subst e1
                        refine ⟨j + 1, _, _, _, _, by omega, by go_num, HM.out.put hjn (by simpa using hz) (upd_eq _ _ _) HF.out none _ (.inl ⟨?_, rfl, ?_⟩)⟩
                        · rw [← HS.out]; rfl
                        · rw [← HMD.out]; simpa using h3
                      case measure => simp [intOf]; omega
                    · have h3' : (m == 3) = false := by simpa using h3
                      have tb : (wc.setCell ⟨w.heap.size, s * 2, none⟩ (.int .u64 id)).cell? ⟨b, 0, none⟩ = some (.int .u64 (fidOf (md j) (ids j))) := (cell_set_ne (by omega)).trans hfb
                      have tg1 : ((wc.setCell ⟨w.heap.size, s * 2, none⟩ (.int .u64 id)).setCell ⟨w.heap.size, s * 2 + 1, none⟩ (.pointer (some ⟨b, 0, none⟩))).cell? ⟨w.heap.size + 2, j, none⟩ = some (.pointer (fp j)) := (cell_set_ne (by omega)).trans ((cell_set_ne (by omega)).trans f1)
                      have tg2 : ((wc.setCell ⟨w.heap.size, s * 2, none⟩ (.int .u64 id)).setCell ⟨w.heap.size, s * 2 + 1, none⟩ (.pointer (some ⟨b, 0, none⟩))).frozen? ⟨w.heap.size + 2, j, none⟩ = false := (frozen_set _ _ _ _).trans ((frozen_set _ _ _ _).trans f2)
                      go_wp2_with fail
                      refine hs.mono ?_
                      rintro e' w' ⟨rfl, rfl⟩
                      go_wp2_with fail
                      refine (store_any _ _ _ _ _ t1 z1).mono ?_
                      rintro e' w1 ⟨rfl, rfl⟩
                      go_wp2_with fail
                      refine (pstore_any _ _ _ _ _ _ ts1 ts2 tb).mono ?_
                      rintro e' w1 ⟨rfl, rfl⟩
                      go_wp2_with fail
                      go_roundw
                      case rel =>
                        have e1 := HI.out
                        subst e1
                        refine ⟨j + 1, _, _, _, _, by omega, by go_num, HM.out.put hjn (by simpa using hz) (upd_eq _ _ _) HF.out (some ⟨b, 0, none⟩) _ (.inr ⟨?_, ?_, b, rfl, hbN, HP.out, hbf⟩)⟩
                        · rw [← HS.out]; rfl
                        · rw [← HMD.out]; simpa using h3
                      case measure => simp [intOf]; omega
    · have hjn' : j = n := by omega
      subst hjn'
      go_wp2_with fail
      refine Met.intro (hJ.out _ _ ?_)
      exact tail8 a0 a1 a2 a3 len0 cap0 len1 cap1 len2 cap2 len3 cap3 q qid w j ids md ds ps _ _ _ _ _ _ _ _ _ _ _ _ _ _ _ _ _ _ _ _ _ _ _ _ _ _ _ _ _ _ _ _ _ _ _ _ _ _ _ _ _ _ _ _ _ _ _ _ _ _ _ _ _ _ _ _ _ _ _ _ _ _ _ _ _ _ _ _ _ _ _ _ _ _ _ _ _ _ _ _ _ _ _ _ _ _ _ _ _ _ _ _ _ _ _ _ _ _ _ _ _ _ _ _ _ _ _ _ _ _ _ _ _ _ _ _ _ _ _ _ _ _ _ _ _ _ _ _ _ _ _ _ _ _ _ _ _ _ _ _ _ _ _ _ _ _ _ _ _ _ _ _ _ _ _ _ _ _ _ _ _ _ _ _ _ _ _ _ _ _ _ _ _ _ _ _ _ _ _ _ _ _ _ _ _ _ _ _ _ _ _ _ _ _ _ _ _ _ _ _ _ _ _ _ _ _ _ _ _ _ _ _ _ _ _ _ _ _ _ _ _ _ _ _ _ _ _ _ _ _ _ _ _ _ _ _ _ _ E tid tf fp ms M

end Go.Proofs.Ybulkbfoi
