import Derived.Test.YbulkbfpkLawB
import Derived.Maps.AppendAt
import Derived.Laws.AppendOwnNone
namespace Go.Proofs.Ybulkbfpk
open Go.RowKit
theorem env_news {I : Inp} {A : Arg} {w : World} {k : Nat} {ad : Addr} (E : Env I A w) (hk : k < I.n) (hsa : A.sa k = some ad) : ∀ j u, (pickI (I.sv k) (I.sm k))[j]? = some u → w.cell? (ad.add j) = some u := by
  intro j u hj
  have hl : j < I.sm k := by
    rcases Nat.lt_or_ge j (I.sm k) with h | h
    · exact h
    · rw [List.getElem?_eq_none (by rw [pickI_length]; omega)] at hj; cases hj
  rcases E.sig k hk with h | ⟨b, o, e, hb, hc⟩
  · omega
  · rw [hsa] at e
    cases e
    rw [show (⟨b, o, none⟩ : Addr).add j = ⟨b, o + j, none⟩ by unfold Addr.add; split <;> simp_all, hc j hl]
    simp [pickI, hl] at hj
    rw [hj]
theorem pickI_one (sv : Nat → Int) (m : Nat) : ∀ u ∈ pickI sv m, u.oneCell' = true := by
  intro u hu
  simp only [pickI, List.mem_map] at hu
  obtain ⟨j, _, rfl⟩ := hu
  rfl
theorem MS.appAt {wq w w2 : World} {B NB : Nat} {inb : Array Value} {l : List Row} (h : MS wq B NB inb l w) (i : Nat) (r : Row) (hi : l[i]? = some r) (he : r.e ≠ 26) {ys : List Value} {v' : Value} {m : Nat} (h1 : w2.ownsRow B r.e 1 v' (r.xs.length + m) (r.xs ++ ys)) (h2 : w.grownBy w2 r.v.ownBlock) (h3 : v'.ownBlock = r.v.ownBlock ∨ v'.ownBlock = some w.heap.size) (hm : ys.length = m) :
    MS wq B NB inb (l.set i ⟨r.e, v', r.xs ++ ys⟩) w2 := by
  refine h.grow i r hi he _ _ (by rw [List.length_append, hm]; exact h1) h2 ?_
  rcases h3 with h3 | h3
  · exact .inl h3
  · exact .inr ⟨_, h3, Nat.le_refl _⟩
section
variable {wq w : World} {B NB k : Nat} {I : Inp} {A : Arg} {l : List Row}
theorem MS.c3 (h : MS wq B NB (I.inb A k) l w) : w.cell? ⟨NB, 3, none⟩ = some (.int .i64 (I.rom k)) := cells_at h.inb 3
theorem MS.c5 (h : MS wq B NB (I.inb A k) l w) : w.cell? ⟨NB, 5, none⟩ = some (.int .i32 (I.opn k)) := cells_at h.inb 5
theorem MS.c6 (h : MS wq B NB (I.inb A k) l w) : w.cell? ⟨NB, 6, none⟩ = some (.int .i32 (I.dev k)) := cells_at h.inb 6
theorem MS.c7 (h : MS wq B NB (I.inb A k) l w) : w.cell? ⟨NB, 7, none⟩ = some (.int .i32 (I.cor k)) := cells_at h.inb 7
theorem MS.c8 (h : MS wq B NB (I.inb A k) l w) : w.cell? ⟨NB, 8, none⟩ = some (.slice (A.sa k) (I.sm k) (A.sc k)) := cells_at h.inb 8
end
theorem ne3 : (3 : TypeId) ≠ 26 := by decide
theorem ne2 : (2 : TypeId) ≠ 26 := by decide
theorem ne21 : (21 : TypeId) ≠ 26 := by decide
theorem one_news (w : World) (v : Value) (t : TypeId) : ∀ j u, [v][j]? = some u → (w.alloc (.cells #[v] t)).cell? ((⟨w.heap.size, 0, none⟩ : Addr).add j) = some u := by
  intro j u hj
  cases j with
  | zero => cases hj; rw [show (⟨w.heap.size, 0, none⟩ : Addr).add 0 = ⟨w.heap.size, 0, none⟩ from rfl, World.cell?_alloc_new]; rfl
  | succ j => cases hj
theorem one_int (k : IntKind) (z : Int) : ∀ u ∈ [Value.int k z], u.oneCell' = true := by
  intro u hu
  rcases List.mem_singleton.1 hu with rfl
  rfl
theorem MS.app {wq w w2 : World} {B NB : Nat} {inb : Array Value} {l : List Row} (h : MS wq B NB inb l w) (i : Nat) (r : Row) (hi : l[i]? = some r) (he : r.e ≠ 26) {o : Obj} (ys : List Value) {g cap : Nat} (h1 : w2.ownsRow B r.e 1 (.slice (some ⟨g, 0, none⟩) (r.xs.length + ys.length) cap) (r.xs.length + ys.length) (r.xs ++ ys)) (h2 : (w.alloc o).grownBy w2 r.v.ownBlock) (h3 : r.v.ownBlock = some g ∨ g = w.heap.size + 1) :
    MS wq B NB inb (l.set i ⟨r.e, .slice (some ⟨g, 0, none⟩) (r.xs.length + ys.length) cap, r.xs ++ ys⟩) w2 := by
  refine (h.alloc o).grow i r hi he _ _ (by simpa using h1) h2 ?_
  rcases h3 with h3 | h3
  · exact .inl h3.symm
  · exact .inr ⟨g, rfl, by simp; omega⟩
theorem MS.start {wq w : World} {B : Nat} {l : List Row} (hr : Rows w B l) (hb : Below B wq w) (hB : B ≤ w.heap.size) (inb : Array Value) : MS wq B w.heap.size inb l (w.alloc (.cells inb 26)) :=
  ⟨hr.alloc _, hb.alloc hB _, newBlock _ _, by simp; omega, hB⟩
set_option maxRecDepth 100000 in
set_option maxHeartbeats 2000000 in
theorem tail10 (I : Inp) (A : Arg) (P : Ptrs) (CU : Nat) (w wq : World)  (u3 u4 u5 u6 u8 u18 u19 u20 u21 u22 u23 u24 u25 u26 u27 u28 u29 u30 u31 u32 u33 u34 u35 u36 u37 u38 u39 u40 u41 u42 u43 u44 u45 u46 u47 u48 u49 u50 u51 u52 u53 u54 u55 u56 u57 u58 u59 u60 u61 u62 u63 u64 u65 u66 u67 u68 u69 u70 u71 u72 u73 u74 u75 u76 u77 u78 u79 u80 u81 u82 u83 u84 u85 u86 u87 u88 u89 u90 u91 u92 u93 u94 u95 u96 u97 u98 u99 u100 u101 u102 u103 u104 u105 u106 u107 u108 u109 u110 u111 u112 u113 u114 u115 u116 u117 u118 u119 u120 u121 u122 u123 u124 u125 u126 u127 u128 u129 u130 u131 u132 u133 u134 u135 u136 u137 u138 u139 u140 u141 u142 u143 u144 u145 u146 u147 u148 u149 u150 u151 u152 u153 u154 u155 u156 u157 u158 u159 u160 u161 u162 u163 u164 u165 u166 u167 u168 u169 u170 u171 u172 u173 u174 u175 u176 u177 u178 u179 u180 u181 u182 u183 u184 u185 u186 u187 u188 u189 u190 u191 u192 u193 u194 u195 u196 u197 u198 u199 u200 u201 u202 u203 u204 u205 u206 u207 u208 u209 u210 u211 u212 u213 u214 u215 u216 u217 u218 u219 u220 u221 u222 u223 u224 u225 u226 u227 u228 u229 u230 u231 u232 u233 u234 u235 u236 u237 u238 u239 u240 u241 u242 u243 u244 u245 u246 u247 u248 u249 u250 u251 u252 u253 u254 u255 u256 u257 u258 u259 u260 u261 u262 u263 u264 u265 u266 u267 u268 u269 u270 u271 u272 u273 u274 u275 u276 u277 u278 u279 u280 u281 u282 u283 u284 u285 u286 u287 u288 u289 u290 u291 u292 u293 u294 u295 u296 u297 u298 u299 u300 u301 u302 u303 u304 u305 u306 u307 u308 u309 u310 u311 u312 u313 u314 u315 u316 u317 u318 u319 u320 u321 u322 u323 u324 u325 u326 u327 u328 u329 u330 u331 u332 u333 u334 u335 u336 u337 u338 u339 u340 u341 u342 u343 u344 : Value) (wx : World) (E : Env I A w) (hq : Pre I A P CU w wq) (hr : Rows wx wq.heap.size (mr (.slice none 0 0) (.slice none 0 0) (.slice none 0 0) (.slice none 0 0) (.slice none 0 0) (.slice none 0 0) (.slice (some ⟨wq.heap.size, 0, none⟩) I.n I.n) [] [] [] [] [] [] (I.nidL 0))) (hb : Below wq.heap.size wq wx) :
    Code.wp Yba.prog ((Yba.f3.body.bind (dropS 10)).getD .skip) (bodyPost Yba.prog Yba.f3 fun e w' => e = .returned (.bool true) ∧ Below w.heap.size w w') ⟨#[.slice (some ⟨A.ab, A.ao, none⟩) I.n A.acap, .slice A.a1 A.c A.ccap, .bool I.kd, u3, u4, u5, u6, .int .i64 I.n, u8, .pointer (some ⟨w.heap.size, 0, none⟩), .slice (some ⟨w.heap.size + 2, 0, none⟩) I.n I.n, .slice none 0 0, .slice none 0 0, .slice (some ⟨wq.heap.size, 0, none⟩) I.n I.n, .slice none 0 0, .slice none 0 0, .slice none 0 0, .slice none 0 0, u18, u19, u20, u21, u22, u23, u24, u25, u26, u27, u28, u29, u30, u31, u32, u33, u34, u35, u36, u37, u38, u39, u40, u41, u42, u43, u44, u45, u46, u47, u48, u49, u50, u51, u52, u53, u54, u55, u56, u57, u58, u59, u60, u61, u62, u63, u64, u65, u66, u67, u68, u69, u70, u71, u72, u73, u74, u75, u76, u77, u78, u79, u80, u81, u82, u83, u84, u85, u86, u87, u88, u89, u90, u91, u92, u93, u94, u95, u96, u97, u98, u99, u100, u101, u102, u103, u104, u105, u106, u107, u108, u109, u110, u111, u112, u113, u114, u115, u116, u117, u118, u119, u120, u121, u122, u123, u124, u125, u126, u127, u128, u129, u130, u131, u132, u133, u134, u135, u136, u137, u138, u139, u140, u141, u142, u143, u144, u145, u146, u147, u148, u149, u150, u151, u152, u153, u154, u155, u156, u157, u158, u159, u160, u161, u162, u163, u164, u165, u166, u167, u168, u169, u170, u171, u172, u173, u174, u175, u176, u177, u178, u179, u180, u181, u182, u183, u184, u185, u186, u187, u188, u189, u190, u191, u192, u193, u194, u195, u196, u197, u198, u199, u200, u201, u202, u203, u204, u205, u206, u207, u208, u209, u210, u211, u212, u213, u214, u215, u216, u217, u218, u219, u220, u221, u222, u223, u224, u225, u226, u227, u228, u229, u230, u231, u232, u233, u234, u235, u236, u237, u238, u239, u240, u241, u242, u243, u244, u245, u246, u247, u248, u249, u250, u251, u252, u253, u254, u255, u256, u257, u258, u259, u260, u261, u262, u263, u264, u265, u266, u267, u268, u269, u270, u271, u272, u273, u274, u275, u276, u277, u278, u279, u280, u281, u282, u283, u284, u285, u286, u287, u288, u289, u290, u291, u292, u293, u294, u295, u296, u297, u298, u299, u300, u301, u302, u303, u304, u305, u306, u307, u308, u309, u310, u311, u312, u313, u314, u315, u316, u317, u318, u319, u320, u321, u322, u323, u324, u325, u326, u327, u328, u329, u330, u331, u332, u333, u334, u335, u336, u337, u338, u339, u340, u341, u342, u343, u344], []⟩ wx := by
  conv => arg 2; whnf
  let Q' : Exit → Act → World → Prop := (bodyPost Yba.prog Yba.f3 fun e w' => e = .returned (.bool true) ∧ Below w.heap.size w w')
  show Code.wp Yba.prog _ Q' _ _
  refine seq_cut fun J K hJ hK => ?_
  have hn1 := E.n1
  go_wp2_with fail
  go_loopw [11, 12, 14, 15, 16, 17, 18] (fun v0 v1 v2 v3 v4 v5 iv wr => ∃ k : Nat, k ≤ I.n ∧ iv = .int .i64 k ∧ Rows wr wq.heap.size (mr v0 v1 v2 v3 v4 v5 (.slice (some ⟨wq.heap.size, 0, none⟩) I.n I.n) (I.keptL k) (I.roomL k) (I.X k 0) (I.X k 1) (I.X k 2) (I.X k 3) (I.nidL k)) ∧ Below wq.heap.size wq wr) (fun _ _ _ _ _ _ iv _ => I.n - (intOf iv).toNat)
  case atStart => exact ⟨0, Nat.zero_le _, rfl, hr, hb⟩
  case round =>
    obtain ⟨k, hkn, rfl, Rk, Lk⟩ := hrel
    have HK := hide (show _ ∧ _ from ⟨Rk, Lk⟩)
    have hwr := Lk.size
    by_cases hlt : k < I.n
    · have hI := fun j hj => (E.next (hq.bel.trans (Lk.mono hq.bel.size))).ins k hlt j hj
      have g0 := hI 0 (by decide)
      have g1 := hI 1 (by decide)
      have g2 := hI 2 (by decide)
      have g3 := hI 3 (by decide)
      have g4 := hI 4 (by decide)
      have g5 := hI 5 (by decide)
      have g6 := hI 6 (by decide)
      have g7 := hI 7 (by decide)
      have g8 := hI 8 (by decide)
      simp only [Inp.ib, Nat.add_zero] at g0 g1 g2 g3 g4 g5 g6 g7 g8
      obtain ⟨st0, st1⟩ := E.st0 k hlt
      obtain ⟨en0, en1⟩ := E.en0 k hlt
      have M0 := hide (MS.start Rk Lk hwr (I.inb A k))
      clear Rk Lk hI
      go_upto_region 19 with fail
      go_cut [19, 86] (fun p19 b86 w2 => p19 = .pointer (some ⟨wr.heap.size, 0, none⟩) ∧ b86 = .bool (I.keep k) ∧ MS wq wq.heap.size wr.heap.size (I.inb A k) (mr u11 u12 u14 u15 u16 u17 (.slice (some ⟨wq.heap.size, 0, none⟩) I.n I.n) (I.keptL k) (I.roomL k) (I.X k 0) (I.X k 1) (I.X k 2) (I.X k 3) (I.nidL k)) w2)
      case first =>
        by_cases hk0 : k = 0
        · subst hk0
          go_wp2_with fail
          go_meet
          case rel => exact ⟨rfl, by simp [Inp.keep], M0.out⟩
        · have hk0' : ((k : Int) == 0) = false := by simp; omega
          by_cases hs : I.st k % 3 = 0
          · by_cases he : I.en k % 3 = 0
            · go_wp2_with fail
              go_meet
              case rel => exact ⟨rfl, by simp [Inp.keep, hk0, hs, he], M0.out⟩
            · have he' : (I.en k % 3 == 0) = false := by simpa using he
              go_wp2_with fail
              go_meet
              case rel => exact ⟨rfl, by simp [Inp.keep, hk0, hs, he], M0.out⟩
          · have hs' : (I.st k % 3 == 0) = false := by simpa using hs
            go_wp2_with fail
            go_meet
            case rel => exact ⟨rfl, by simp [Inp.keep, hk0, hs], M0.out⟩
      case rest =>
        clear M0 g0 g1 g2 g3 g4 g5 g6 g7 g8
        obtain ⟨rfl, rfl, M2⟩ := hcut
        have mN := M2.inb
        have n0 := cells_at mN 0
        have n1 := cells_at mN 1
        have n2 := cells_at mN 2
        have n3 := cells_at mN 3
        have n4 := cells_at mN 4
        have n5 := cells_at mN 5
        have n6 := cells_at mN 6
        have n7 := cells_at mN 7
        have n8 := cells_at mN 8
        simp only [Inp.inb, List.getElem?_toArray, List.getElem?_cons_zero, List.getElem?_cons_succ] at n0 n1 n2 n3 n4 n5 n6 n7 n8
        have szN := lt_of_block mN
        have hBs := M2.hB
        have H2 := hide M2
        have hKk := I.K_le k
        obtain ⟨i3, hi3, hz3, hs3, hb3⟩ := info_of (t := 3) (z := .int .i64 0) (s := 1) (b := 8) (by kernel_rfl)
        obtain ⟨i2, hi2, hz2, hs2, hb2⟩ := info_of (t := 2) (z := .int .i64 0) (s := 1) (b := 8) (by kernel_rfl)
        obtain ⟨i1, hi1, hz1, hs1, hb1⟩ := info_of (t := 21) (z := .int .i32 0) (s := 1) (b := 4) (by kernel_rfl)
        clear M2 mN
        go_upto_if 86 with fail
        go_cut [11, 12, 14, 15, 16, 17, 20] (fun v0 v1 v2 v3 v4 v5 _ w3 => MS wq wq.heap.size wr.heap.size (I.inb A k) (mr v0 v1 v2 v3 v4 v5 (.slice (some ⟨wq.heap.size, 0, none⟩) I.n I.n) (I.keptL (k + 1)) (I.roomL (k + 1)) (I.X (k + 1) 0) (I.X (k + 1) 1) (I.X (k + 1) 2) (I.X (k + 1) 3) (I.nidL k)) w3)
        case first =>
          cases hke : I.keep k with
          | true =>
            have e1 := I.keptL_len k
            have e2 := I.roomL_len k
            go_upto_region 21 with (at_builtin; go_loud (refine wpList_append_lies _ rfl (.tmp 87) (.tmp 89) 23 rfl wq.heap.size 3 i3 _ 1 8 Yba.underlying23 hi3 hz3 hs3 hb3 rfl (by decide) u11 (I.keptL k).length (I.keptL k) rfl ((H2.out.rows.own 0 _ rfl).alloc _) ⟨wc.heap.size, 0, none⟩ 1 1 [.int .i64 k] rfl rfl (one_news wc (.int .i64 k) 3) (one_int _ _) (by decide) (by unfold maxLen; omega) (by omega) (by simp; omega) (wc.heap.size + 1) (by simp) ?_; intro g cap w2 h1 h2 h3 h4; have H3 := hide (H2.out.app 0 _ rfl ne3 [.int .i64 k] h1 h2 h3); clear h1 h2 h3 H2; clear hi3 hz3 hs3 hb3; have nr := H3.out.c3; have hBs3 := H3.out.hB))
            go_wp2_with (at_builtin; go_loud (refine wpList_append_lies _ rfl (.tmp 91) (.tmp 94) 33 rfl wq.heap.size 2 i2 _ 1 8 Yba.underlying33 hi2 hz2 hs2 hb2 rfl (by decide) u12 (I.roomL k).length (I.roomL k) rfl ((H3.out.rows.own 1 _ rfl).alloc _) ⟨w2.heap.size, 0, none⟩ 1 1 [.int .i64 (I.rom k)] rfl rfl (one_news w2 (.int .i64 (I.rom k)) 2) (one_int _ _) (by decide) (by unfold maxLen; omega) (by omega) (by simp; omega) (w2.heap.size + 1) (by simp) ?_; intro g2 cap2 w3 h1 h2 h3 h4; have H4 := hide (H3.out.app 1 _ rfl ne2 [.int .i64 (I.rom k)] h1 h2 h3); clear h1 h2 h3 H3; clear hi2 hz2 hs2 hb2 nr))
            go_meet
            case rel =>
              obtain ⟨_, _, _, x4⟩ := Inp.K_keep hke
              rw [Inp.keptL_keep hke, Inp.roomL_keep hke, x4]
              have q := H4.out
              simp only [Inp.keptL_len, Inp.roomL_len] at q
              exact q
          | false =>
            have hk0 : 0 < k := by
              rcases Nat.eq_zero_or_pos k with h | h
              · subst h; simp [Inp.keep] at hke
              · exact h
            have hKp := I.K_pos k hk0
            obtain ⟨K1, hK1⟩ : ∃ K1, I.K k = K1 + 1 := ⟨I.K k - 1, by omega⟩
            obtain ⟨g1, c1, eu12⟩ : ∃ g1 c1, u12 = .slice (some ⟨g1, 0, none⟩) (K1 + 1) c1 := by
              rcases own_slice (H2.out.rows.own 1 _ rfl) with ⟨c, e, h⟩ | ⟨g, cap, e⟩
              · simp only [Inp.roomL_len] at h; omega
              · simp only [Inp.roomL_len, hK1] at e; exact ⟨g, cap, e⟩
            subst eu12
            have hown1 := H2.out.rows.own 1 _ rfl
            simp only [Inp.roomL_len, hK1] at hown1
            have cr : wc.cell? ⟨g1, K1, none⟩ = some (.int .i64 (I.rm k K1)) := by
              rw [hown1.cellAt K1 (by omega), Inp.roomL_at _ _ _ (by omega)]
            have fr := hown1.frozenAt K1
            have hX := hide (fun i => I.X_len 1024 (by decide) E.sm1 k i (by omega))
            clear hown1
            go_upto_region 23 with fail
            go_region
            go_upto_if 105 with fail
            go_cut [20] (fun _ w3 => MS wq wq.heap.size wr.heap.size (I.inb A k) (mr u11 (.slice (some ⟨g1, 0, none⟩) (K1 + 1) c1) u14 u15 u16 u17 (.slice (some ⟨wq.heap.size, 0, none⟩) I.n I.n) (I.keptL (k + 1)) (I.roomL (k + 1)) (I.X k 0) (I.X k 1) (I.X k 2) (I.X k 3) (I.nidL k)) w3)
            case first =>
              by_cases hless : I.rom k < I.rm k K1
              · go_wp2_with fail
                go_meet
                case rel =>
                  have q := H2.out.store 1 2 g1 c1 (K1 + 1) (I.roomL k) rfl ne2 (by rw [Inp.roomL_len, hK1]) K1 (.int .i64 (I.rom k))
                  rw [Inp.keptL_skip hke, Inp.roomL_less hk0 hke (by rw [hK1]; exact hless), hK1]
                  exact q.drew
              · go_wp2_with fail
                go_meet
                case rel =>
                  rw [Inp.keptL_skip hke, Inp.roomL_more hke (by rw [hK1]; simp; omega)]
                  exact H2.out.drew
            case rest =>
              clear n0 n1 n2 n3 n4 n5 n6 n7 n8 H2 cr fr szN hBs
              have H3 := hide hcut
              have n8 := hcut.c8
              have hBs := hcut.hB
              clear hcut
              go_upto_region 25 with fail
              go_cut [17] (fun v5 w3 => MS wq wq.heap.size wr.heap.size (I.inb A k) (mr u11 (.slice (some ⟨g1, 0, none⟩) (K1 + 1) c1) u14 u15 u16 v5 (.slice (some ⟨wq.heap.size, 0, none⟩) I.n I.n) (I.keptL (k + 1)) (I.roomL (k + 1)) (I.X k 0) (I.X k 1) (I.X k 2) (I.X k 3 ++ pickI (I.sv k) (I.sm k)) (I.nidL k)) w3)
              case first =>
                have hsm := E.sm1 k hlt
                cases hsa : A.sa k with
                | none =>
                  obtain ⟨m0, m1⟩ := E.nilc k hlt hsa
                  rw [hsa, m0, m1] at n8
                  go_wp2_with (at_builtin; go_loud (refine wpList_append_own_none rfl (.tmp 111) (.tmp 113) 24 rfl wq.heap.size 21 i1 1 Yba.underlying24 hi1 u17 (I.X k 3).length (I.X k 3) rfl (H3.out.rows.own 5 _ rfl) rfl ?_))
                  go_meet
                  case rel =>
                    rw [m0]
                    simpa [pickI] using H3.out
                | some ad =>
                  rw [hsa] at n8
                  have hnews : Hid (∀ j u, (pickI (I.sv k) (I.sm k))[j]? = some u → wc.cell? (ad.add j) = some u) := env_news (E.next (hq.bel.trans (H3.out.bel.mono hq.bel.size))) hlt hsa
                  go_wp2_with (at_builtin; go_loud (refine wpList_append_own_at _ rfl (.tmp 111) (.tmp 113) 24 rfl wq.heap.size 21 i1 _ 1 4 Yba.underlying24 hi1 hz1 hs1 hb1 rfl (by decide) u17 (I.X k 3).length (I.X k 3) rfl (H3.out.rows.own 5 _ rfl) ad (I.sm k) (A.sc k) (pickI (I.sv k) (I.sm k)) rfl (by rw [pickI_length]; omega) hnews.out (pickI_one _ _) (by unfold maxLen; have := hX.out 3; omega) (by have := hX.out 3; omega) hBs ?_; intro v' w' h1 h2 h3 h4; have H4 := hide (H3.out.appAt 5 _ rfl ne21 h1 h2 h4 (pickI_length _ _)); clear h1 h2 h3 h4))
                  go_meet
                  case rel => exact H4.out
              case rest =>
                clear n8 H3 hBs
                have H3 := hide hcut
                have n5 := hcut.c5
                have hBs := hcut.hB
                have szN := lt_of_block hcut.inb
                clear hcut
                go_upto_region 26 with fail
                go_cut [14] (fun v2 w3 => MS wq wq.heap.size wr.heap.size (I.inb A k) (mr u11 (.slice (some ⟨g1, 0, none⟩) (K1 + 1) c1) v2 u15 u16 u17 (.slice (some ⟨wq.heap.size, 0, none⟩) I.n I.n) (I.keptL (k + 1)) (I.roomL (k + 1)) (I.X k 0 ++ [.int .i32 (I.opn k)]) (I.X k 1) (I.X k 2) (I.X k 3 ++ pickI (I.sv k) (I.sm k)) (I.nidL k)) w3)
                case first =>
                  go_wp2_with (at_builtin; go_loud (refine wpList_append_lies _ rfl (.tmp 115) (.tmp 118) 24 rfl wq.heap.size 21 i1 _ 1 4 Yba.underlying24 hi1 hz1 hs1 hb1 rfl (by decide) u14 (I.X k 0).length (I.X k 0) rfl ((H3.out.rows.own 2 _ rfl).alloc _) ⟨wc.heap.size, 0, none⟩ 1 1 [.int .i32 (I.opn k)] rfl rfl (one_news wc (.int .i32 (I.opn k)) 21) (one_int _ _) (by decide) (by unfold maxLen; have := hX.out 0; omega) (by have := hX.out 0; omega) (by simp; omega) (wc.heap.size + 1) (by simp) ?_; intro g cap w2 h1 h2 h3 h4; have H4 := hide (H3.out.app 2 _ rfl ne21 [.int .i32 (I.opn k)] h1 h2 h3); clear h1 h2 h3 H3; clear n5))
                  go_meet
                  case rel => exact H4.out
                case rest =>
                  clear n5 H3 hBs szN
                  have H3 := hide hcut
                  have n6 := hcut.c6
                  have hBs := hcut.hB
                  have szN := lt_of_block hcut.inb
                  clear hcut
                  go_upto_if 120 with fail
                  go_cut [2, 15] (fun b2 v3 w3 => b2 = .bool I.kd ∧ MS wq wq.heap.size wr.heap.size (I.inb A k) (mr u11 (.slice (some ⟨g1, 0, none⟩) (K1 + 1) c1) u14 v3 u16 u17 (.slice (some ⟨wq.heap.size, 0, none⟩) I.n I.n) (I.keptL (k + 1)) (I.roomL (k + 1)) (I.X k 0 ++ [.int .i32 (I.opn k)]) (if I.kd then I.X k 1 ++ [.int .i32 (I.dev k)] else I.X k 1) (I.X k 2) (I.X k 3 ++ pickI (I.sv k) (I.sm k)) (I.nidL k)) w3)
                  case first =>
                    rcases Bool.eq_false_or_eq_true I.kd with hd | hd
                    · rw [hd]
                      go_wp2_with (at_builtin; go_loud (refine wpList_append_lies _ rfl (.tmp 121) (.tmp 124) 24 rfl wq.heap.size 21 i1 _ 1 4 Yba.underlying24 hi1 hz1 hs1 hb1 rfl (by decide) u15 (I.X k 1).length (I.X k 1) rfl ((H3.out.rows.own 3 _ rfl).alloc _) ⟨wc.heap.size, 0, none⟩ 1 1 [.int .i32 (I.dev k)] rfl rfl (one_news wc (.int .i32 (I.dev k)) 21) (one_int _ _) (by decide) (by unfold maxLen; have := hX.out 1; omega) (by have := hX.out 1; omega) (by simp; omega) (wc.heap.size + 1) (by simp) ?_; intro g cap w2 h1 h2 h3 h4; have H4 := hide (H3.out.app 3 _ rfl ne21 [.int .i32 (I.dev k)] h1 h2 h3); clear h1 h2 h3 H3; clear n6))
                      go_meet
                      case rel =>
                        refine ⟨by rw [hd], ?_⟩
                        rw [if_pos hd]
                        exact H4.out
                    · rw [hd]
                      go_wp2_with fail
                      go_meet
                      case rel =>
                        refine ⟨by rw [hd], ?_⟩
                        rw [if_neg (by rw [hd]; decide)]
                        exact H3.out
                  case rest =>
                    clear n6 H3 hBs szN
                    obtain ⟨rfl, hcut⟩ := hcut
                    have H3 := hide hcut
                    have n7 := hcut.c7
                    have hBs := hcut.hB
                    have szN := lt_of_block hcut.inb
                    clear hcut
                    obtain ⟨_, _, _, x4⟩ := Inp.K_skip hke
                    have x5 := hide x4
                    clear x4
                    by_cases hc : I.cor k = -1
                    · rw [hc] at n7
                      go_wp2_with fail
                      go_meet
                      case rel =>
                        rw [x5.out]
                        simp only [Inp.dropX, hc]
                        exact H3.out
                    · have hc' : (I.cor k == -1) = false := by simpa using hc
                      go_wp2_with (at_builtin; go_loud (refine wpList_append_lies _ rfl (.tmp 129) (.tmp 132) 24 rfl wq.heap.size 21 i1 _ 1 4 Yba.underlying24 hi1 hz1 hs1 hb1 rfl (by decide) u16 (I.X k 2).length (I.X k 2) rfl ((H3.out.rows.own 4 _ rfl).alloc _) ⟨wc.heap.size, 0, none⟩ 1 1 [.int .i32 (I.cor k)] rfl rfl (one_news wc (.int .i32 (I.cor k)) 21) (one_int _ _) (by decide) (by unfold maxLen; have := hX.out 2; omega) (by have := hX.out 2; omega) (by simp; omega) (wc.heap.size + 1) (by simp) ?_; intro g cap w2 h1 h2 h3 h4; have H4 := hide (H3.out.app 4 _ rfl ne21 [.int .i32 (I.cor k)] h1 h2 h3); clear h1 h2 h3 H3; clear n7))
                      go_meet
                      case rel =>
                        rw [x5.out]
                        simp only [Inp.dropX, hc]
                        exact H4.out
        case rest =>
          clear n0 n1 n2 n3 n4 n5 n6 n7 n8 H2 szN hBs hi1 hi2 hi3 hz1 hz2 hz3 hs1 hs2 hs3 hb1 hb2 hb3
          have hKp := I.K_pos (k + 1) (by omega)
          obtain ⟨K1, hK1⟩ : ∃ K1, I.K (k + 1) = K1 + 1 := ⟨I.K (k + 1) - 1, by omega⟩
          obtain ⟨g0, c0, eu⟩ : ∃ g0 c0, u11 = .slice (some ⟨g0, 0, none⟩) (K1 + 1) c0 := by
            rcases own_slice (hcut.rows.own 0 _ rfl) with ⟨c, e, h⟩ | ⟨g, cap, e⟩
            · simp only [Inp.keptL_len] at h; omega
            · simp only [Inp.keptL_len, hK1] at e; exact ⟨g, cap, e⟩
          subst eu
          have hown := hcut.rows.own 6 _ rfl
          simp only [Inp.nidL_len] at hown
          have cn : wc.cell? ⟨wq.heap.size, k, none⟩ = some (.int .i64 (if k < k then (I.nx k : Int) else 0)) := by
            rw [hown.cellAt k (by omega), Inp.nidL_at _ _ _ hlt]
          have fn := hown.frozenAt k
          have hKb := I.K_le (k + 1)
          have H3 := hide hcut
          have e3 : I.nx k = K1 := by unfold Inp.nx; omega
          clear hown hcut
          go_wp2_with fail
          go_roundw
          case rel =>
            have q := H3.out.store 6 3 wq.heap.size I.n I.n (I.nidL k) rfl ne3 (Inp.nidL_len _ _) k (.int .i64 (I.nx k))
            rw [← Inp.nidL_succ hlt, e3] at q
            exact ⟨k + 1, by omega, by simp, q.rows, q.bel⟩
          case measure => simp [intOf]; omega
    · have hke : k = I.n := by omega
      subst hke
      clear Rk Lk
      go_wp2_with fail
      refine Met.intro (hJ.out _ _ ?_)
      exact tail11 I A P CU w wq u11 u12 u14 u15 u16 u17 _ _ _ _ _ _ _ _ _ _ _ _ _ _ _ _ _ _ _ _ _ _ _ _ _ _ _ _ _ _ _ _ _ _ _ _ _ _ _ _ _ _ _ _ _ _ _ _ _ _ _ _ _ _ _ _ _ _ _ _ _ _ _ _ _ _ _ _ _ _ _ _ _ _ _ _ _ _ _ _ _ _ _ _ _ _ _ _ _ _ _ _ _ _ _ _ _ _ _ _ _ _ _ _ _ _ _ _ _ _ _ _ _ _ _ _ _ _ _ _ _ _ _ _ _ _ _ _ _ _ _ _ _ _ _ _ _ _ _ _ _ _ _ _ _ _ _ _ _ _ _ _ _ _ _ _ _ _ _ _ _ _ _ _ _ _ _ _ _ _ _ _ _ _ _ _ _ _ _ _ _ _ _ _ _ _ _ _ _ _ _ _ _ _ _ _ _ _ _ _ _ _ _ _ _ _ _ _ _ _ _ _ _ _ _ _ _ _ _ _ _ _ _ _ _ _ _ _ _ _ _ _ _ _ _ _ _ _ _ _ _ _ _ _ _ _ _ _ _ _ _ _ _ _ _ _ _ _ _ _ _ _ _ _ _ _ _ _ _ _ _ _ _ _ _ _ _ _ _ _ _ _ _ _ _ _ _ _ _ _ _ _ _ _ _ _ _ _ _ _ _ _ _ _ _ _ _ _ _ _ _ _ _ _ _ _ _ _ _ _ _ _ _ _ _ _ _ _ _ _ _ _ wr E hq HK.out.1 HK.out.2

theorem nid_start (I : Inp) {w : World} {C : Array Value} (h1 : C.size = I.n) (h2 : ∀ k, k < I.n → C[k]? = some (.int .i64 0)) (hn : I.n ≤ 1024 := by omega) :
    Rows (w.alloc (.cells C 3)) w.heap.size (mr (.slice none 0 0) (.slice none 0 0) (.slice none 0 0) (.slice none 0 0) (.slice none 0 0) (.slice none 0 0) (.slice (some ⟨w.heap.size, 0, none⟩) I.n I.n) [] [] [] [] [] [] (I.nidL 0)) := by
  have hC : C.toList = I.nidL 0 := by
    refine Inp.ext_at (by rw [Inp.nidL_len, Array.length_toList, h1]) fun i hi => ?_
    rw [Array.length_toList, h1] at hi
    rw [Inp.nidL_at I 0 i hi, if_neg (by omega), Array.getElem?_toList]
    exact h2 i hi
  have ho : (w.alloc (.cells C 3)).ownsRow w.heap.size 3 1 (.slice (some ⟨w.heap.size, 0, none⟩) I.n I.n) I.n C.toList := World.ownsRow_lit w C I.n (Nat.le_refl _) (by unfold maxLen; omega) (by omega)
  rw [hC] at ho
  have hnil : ∀ e : TypeId, (w.alloc (.cells C 3)).ownsRow w.heap.size e 1 (.slice none 0 0) ([] : List Value).length [] := fun e => World.ownsRow_nil _ _ _ _
  refine ⟨fun i r hi => ?_, fun i j r s hij hi hj => ?_⟩
  · match i with
    | 0 | 1 | 2 | 3 | 4 | 5 => cases hi; exact hnil _
    | 6 => cases hi; simp only [Inp.nidL_len]; exact ho
    | n + 7 => simp [mr] at hi
  · match i with
    | 0 | 1 | 2 | 3 | 4 | 5 => cases hi; exact .inl rfl
    | n + 7 => simp [mr] at hi
    | 6 =>
      match j with
      | 0 | 1 | 2 | 3 | 4 | 5 => cases hi; cases hj; right; simp [Value.ownBlock]
      | n + 7 => simp [mr] at hj
      | 6 => exact absurd rfl hij
set_option maxRecDepth 100000 in
set_option maxHeartbeats 2000000 in
theorem tail4 (I : Inp) (A : Arg) (w : World) (u3 u4 u5 u6 u8 u9 u10 u11 u12 u13 u14 u15 u16 u17 u18 u19 u20 u21 u22 u23 u24 u25 u26 u27 u28 u29 u30 u31 u32 u33 u34 u35 u36 u37 u38 u39 u40 u41 u42 u43 u44 u45 u46 u47 u48 u49 u50 u51 u52 u53 u54 u55 u56 u57 u58 u59 u60 u61 u62 u63 u64 u65 u66 u67 u68 u69 u70 u71 u72 u73 u74 u75 u76 u77 u78 u79 u80 u81 u82 u83 u84 u85 u86 u87 u88 u89 u90 u91 u92 u93 u94 u95 u96 u97 u98 u99 u100 u101 u102 u103 u104 u105 u106 u107 u108 u109 u110 u111 u112 u113 u114 u115 u116 u117 u118 u119 u120 u121 u122 u123 u124 u125 u126 u127 u128 u129 u130 u131 u132 u133 u134 u135 u136 u137 u138 u139 u140 u141 u142 u143 u144 u145 u146 u147 u148 u149 u150 u151 u152 u153 u154 u155 u156 u157 u158 u159 u160 u161 u162 u163 u164 u165 u166 u167 u168 u169 u170 u171 u172 u173 u174 u175 u176 u177 u178 u179 u180 u181 u182 u183 u184 u185 u186 u187 u188 u189 u190 u191 u192 u193 u194 u195 u196 u197 u198 u199 u200 u201 u202 u203 u204 u205 u206 u207 u208 u209 u210 u211 u212 u213 u214 u215 u216 u217 u218 u219 u220 u221 u222 u223 u224 u225 u226 u227 u228 u229 u230 u231 u232 u233 u234 u235 u236 u237 u238 u239 u240 u241 u242 u243 u244 u245 u246 u247 u248 u249 u250 u251 u252 u253 u254 u255 u256 u257 u258 u259 u260 u261 u262 u263 u264 u265 u266 u267 u268 u269 u270 u271 u272 u273 u274 u275 u276 u277 u278 u279 u280 u281 u282 u283 u284 u285 u286 u287 u288 u289 u290 u291 u292 u293 u294 u295 u296 u297 u298 u299 u300 u301 u302 u303 u304 u305 u306 u307 u308 u309 u310 u311 u312 u313 u314 u315 u316 u317 u318 u319 u320 u321 u322 u323 u324 u325 u326 u327 u328 u329 u330 u331 u332 u333 u334 u335 u336 u337 u338 u339 u340 u341 u342 u343 u344 : Value) (E : Env I A w) :
    Code.wp Yba.prog ((Yba.f3.body.bind (dropS 4)).getD .skip) (bodyPost Yba.prog Yba.f3 fun e w' => e = .returned (.bool true) ∧ Below w.heap.size w w') ⟨#[.slice (some ⟨A.ab, A.ao, none⟩) I.n A.acap, .slice A.a1 A.c A.ccap, .bool I.kd, u3, u4, u5, u6, .int .i64 I.n, u8, u9, u10, u11, u12, u13, u14, u15, u16, u17, u18, u19, u20, u21, u22, u23, u24, u25, u26, u27, u28, u29, u30, u31, u32, u33, u34, u35, u36, u37, u38, u39, u40, u41, u42, u43, u44, u45, u46, u47, u48, u49, u50, u51, u52, u53, u54, u55, u56, u57, u58, u59, u60, u61, u62, u63, u64, u65, u66, u67, u68, u69, u70, u71, u72, u73, u74, u75, u76, u77, u78, u79, u80, u81, u82, u83, u84, u85, u86, u87, u88, u89, u90, u91, u92, u93, u94, u95, u96, u97, u98, u99, u100, u101, u102, u103, u104, u105, u106, u107, u108, u109, u110, u111, u112, u113, u114, u115, u116, u117, u118, u119, u120, u121, u122, u123, u124, u125, u126, u127, u128, u129, u130, u131, u132, u133, u134, u135, u136, u137, u138, u139, u140, u141, u142, u143, u144, u145, u146, u147, u148, u149, u150, u151, u152, u153, u154, u155, u156, u157, u158, u159, u160, u161, u162, u163, u164, u165, u166, u167, u168, u169, u170, u171, u172, u173, u174, u175, u176, u177, u178, u179, u180, u181, u182, u183, u184, u185, u186, u187, u188, u189, u190, u191, u192, u193, u194, u195, u196, u197, u198, u199, u200, u201, u202, u203, u204, u205, u206, u207, u208, u209, u210, u211, u212, u213, u214, u215, u216, u217, u218, u219, u220, u221, u222, u223, u224, u225, u226, u227, u228, u229, u230, u231, u232, u233, u234, u235, u236, u237, u238, u239, u240, u241, u242, u243, u244, u245, u246, u247, u248, u249, u250, u251, u252, u253, u254, u255, u256, u257, u258, u259, u260, u261, u262, u263, u264, u265, u266, u267, u268, u269, u270, u271, u272, u273, u274, u275, u276, u277, u278, u279, u280, u281, u282, u283, u284, u285, u286, u287, u288, u289, u290, u291, u292, u293, u294, u295, u296, u297, u298, u299, u300, u301, u302, u303, u304, u305, u306, u307, u308, u309, u310, u311, u312, u313, u314, u315, u316, u317, u318, u319, u320, u321, u322, u323, u324, u325, u326, u327, u328, u329, u330, u331, u332, u333, u334, u335, u336, u337, u338, u339, u340, u341, u342, u343, u344], []⟩ w := by
  conv => arg 2; whnf
  let Q' : Exit → Act → World → Prop := (bodyPost Yba.prog Yba.f3 fun e w' => e = .returned (.bool true) ∧ Below w.heap.size w w')
  show Code.wp Yba.prog _ Q' _ _
  have hn1 := E.n1
  have HE := hide E
  refine seq_cut fun J K hJ hK => ?_
  go_wp2_with fail
  refine (build_any I A w HE.out).mono ?_
  rintro e' wq ⟨rfl, bel, P, CU, bt⟩
  have HP := hide (show Pre I A P CU w wq from ⟨bt, bel⟩)
  have h7 := bt.h7
  obtain ⟨C, c1, c2, hC⟩ := make23 I.n hn1 wq
  have HN := hide (nid_start I c1 c2 (w := wq))
  have HB := hide bel.size
  clear bel bt E c1 c2
  go_wp2_with fail
  refine Met.intro (hJ.out _ _ ?_)
  clear hJ
  refine seq_cut fun J K hJ hK => ?_
  go_wp2_with fail
  refine Met.intro (hJ.out _ _ ?_)
  clear hJ
  refine seq_cut fun J K hJ hK => ?_
  go_wp2_with fail
  refine Met.intro (hJ.out _ _ ?_)
  clear hJ
  refine seq_cut fun J K hJ hK => ?_
  go_wp2_with fail
  refine Met.intro (hJ.out _ _ ?_)
  clear hJ
  refine seq_cut fun J K hJ hK => ?_
  go_wp2_with (at_make; refine wpList_make_eq rfl 23 _ _ rfl _ hC ?_)
  refine Met.intro (hJ.out _ _ ?_)
  clear hJ
  refine seq_cut fun J K hJ hK => ?_
  go_wp2_with fail
  refine Met.intro (hJ.out _ _ ?_)
  clear hJ
  exact tail10 I A P CU w wq _ _ _ _ _ _ _ _ _ _ _ _ _ _ _ _ _ _ _ _ _ _ _ _ _ _ _ _ _ _ _ _ _ _ _ _ _ _ _ _ _ _ _ _ _ _ _ _ _ _ _ _ _ _ _ _ _ _ _ _ _ _ _ _ _ _ _ _ _ _ _ _ _ _ _ _ _ _ _ _ _ _ _ _ _ _ _ _ _ _ _ _ _ _ _ _ _ _ _ _ _ _ _ _ _ _ _ _ _ _ _ _ _ _ _ _ _ _ _ _ _ _ _ _ _ _ _ _ _ _ _ _ _ _ _ _ _ _ _ _ _ _ _ _ _ _ _ _ _ _ _ _ _ _ _ _ _ _ _ _ _ _ _ _ _ _ _ _ _ _ _ _ _ _ _ _ _ _ _ _ _ _ _ _ _ _ _ _ _ _ _ _ _ _ _ _ _ _ _ _ _ _ _ _ _ _ _ _ _ _ _ _ _ _ _ _ _ _ _ _ _ _ _ _ _ _ _ _ _ _ _ _ _ _ _ _ _ _ _ _ _ _ _ _ _ _ _ _ _ _ _ _ _ _ _ _ _ _ _ _ _ _ _ _ _ _ _ _ _ _ _ _ _ _ _ _ _ _ _ _ _ _ _ _ _ _ _ _ _ _ _ _ _ _ _ _ _ _ _ _ _ _ _ _ _ _ _ _ _ _ _ _ _ _ _ _ _ _ _ _ _ _ _ _ _ _ _ _ _ _ _ _ _ HE.out HP.out HN.out ((Below.refl _ _).alloc (Nat.le_refl _) _)

/-- The input, nothing said on how long the sightings are. -/
structure Env0 (I : Inp) (A : Arg) (w : World) : Prop where
  ins : ∀ i, i < I.n → ∀ j, j < 9 → w.cell? ⟨A.ab, A.ao + i * 9 + j, none⟩ = some (I.ib A.sa A.sc i j)
  lt : A.ab < w.heap.size
  sig : ∀ i, i < I.n → I.sm i = 0 ∨ ∃ b o, A.sa i = some ⟨b, o, none⟩ ∧ b < w.heap.size ∧ ∀ j, j < I.sm i → w.cell? ⟨b, o + j, none⟩ = some (.int .i32 (I.sv i j))
  nilc : ∀ i, i < I.n → A.sa i = none → I.sm i = 0 ∧ A.sc i = 0
  cur : A.c = 0 ∨ ∃ b o, A.a1 = some ⟨b, o, none⟩ ∧ b < w.heap.size ∧ ∀ i, i < A.c → w.cell? ⟨b, o + i, none⟩ = some (.int .i64 (A.c0 i))
  n0 : 0 < I.n
  n1 : I.n ≤ 1024
  c1 : A.c ≤ 1024
  st0 : ∀ i, i < I.n → 0 ≤ I.st i ∧ I.st i < 256
  en0 : ∀ i, i < I.n → 0 ≤ I.en i ∧ I.en i < 256
  cz : ∀ i, i < A.c → -9223372036854775808 ≤ A.c0 i ∧ A.c0 i ≤ 9223372036854775807
theorem Env0.env {I : Inp} {A : Arg} {w : World} (h : Env0 I A w) (hs : ∀ i, i < I.n → I.sm i ≤ 1024) : Env I A w := ⟨h.ins, h.lt, h.sig, h.nilc, h.cur, h.n0, h.n1, h.c1, hs, h.st0, h.en0, h.cz⟩
set_option maxRecDepth 100000 in
set_option maxHeartbeats 2000000 in
theorem law_in (I : Inp) (A : Arg) (w : World) (E : Env0 I A w) :
    Calls Yba.prog 3 #[.slice (some ⟨A.ab, A.ao, none⟩) I.n A.acap, .slice A.a1 A.c A.ccap, .bool I.kd] w fun e w' => e = .returned (.bool true) ∧ Below w.heap.size w w' := by
  have n0 := E.n0
  have n1 := E.n1
  have c1 := E.c1
  have n0' : ((I.n : Int) == 0) = false := by simp; omega
  go_enter Yba.func3, Yba.ntmps3
  refine seq_cut fun J K hJ hK => ?_
  go_wp2_with fail
  refine Met.intro (hJ.out _ _ ?_)
  clear hJ
  refine seq_cut fun J K hJ hK => ?_
  go_wp2_with fail
  refine Met.intro (hJ.out _ _ ?_)
  clear hJ
  refine seq_cut fun J K hJ hK => ?_
  go_wp2_with fail
  refine Met.intro (hJ.out _ _ ?_)
  clear hJ
  refine seq_cut fun J K hJ hK => ?_
  have HE := hide E
  clear E
  go_wp2_with fail
  go_loopw [8] (fun iv wr => ∃ i : Nat, i ≤ I.n ∧ iv = .int .i64 i ∧ wr = w ∧ ∀ j, j < i → I.sm j ≤ 1024) (fun iv _ => I.n - (intOf iv).toNat)
  case atStart => exact ⟨0, Nat.zero_le _, rfl, rfl, fun j hj => by omega⟩
  case round =>
    obtain ⟨i, hi, rfl, rfl, hs⟩ := hrel
    have HS := hide hs
    clear hs
    by_cases hlt : i < I.n
    · have k8 := HE.out.ins i hlt 8 (by decide)
      simp only [Inp.ib] at k8
      by_cases hb : 1024 < I.sm i
      · go_wp2_with fail
        go_ret
        exact ⟨rfl, Below.refl _ _⟩
      · go_wp2_with fail
        go_roundw
        case rel =>
          refine ⟨i + 1, by omega, by simp, trivial, fun j hj => ?_⟩
          rcases Nat.lt_or_ge j i with h | h
          · exact HS.out j h
          · have : j = i := by omega
            subst this; omega
        case measure => simp [intOf]; omega
    · have hie : i = I.n := by omega
      subst hie
      go_wp2_with fail
      refine Met.intro (hJ.out _ _ ?_)
      exact tail4 I A wr _ _ _ _ _ _ _ _ _ _ _ _ _ _ _ _ _ _ _ _ _ _ _ _ _ _ _ _ _ _ _ _ _ _ _ _ _ _ _ _ _ _ _ _ _ _ _ _ _ _ _ _ _ _ _ _ _ _ _ _ _ _ _ _ _ _ _ _ _ _ _ _ _ _ _ _ _ _ _ _ _ _ _ _ _ _ _ _ _ _ _ _ _ _ _ _ _ _ _ _ _ _ _ _ _ _ _ _ _ _ _ _ _ _ _ _ _ _ _ _ _ _ _ _ _ _ _ _ _ _ _ _ _ _ _ _ _ _ _ _ _ _ _ _ _ _ _ _ _ _ _ _ _ _ _ _ _ _ _ _ _ _ _ _ _ _ _ _ _ _ _ _ _ _ _ _ _ _ _ _ _ _ _ _ _ _ _ _ _ _ _ _ _ _ _ _ _ _ _ _ _ _ _ _ _ _ _ _ _ _ _ _ _ _ _ _ _ _ _ _ _ _ _ _ _ _ _ _ _ _ _ _ _ _ _ _ _ _ _ _ _ _ _ _ _ _ _ _ _ _ _ _ _ _ _ _ _ _ _ _ _ _ _ _ _ _ _ _ _ _ _ _ _ _ _ _ _ _ _ _ _ _ _ _ _ _ _ _ _ _ _ _ _ _ _ _ _ _ _ _ _ _ _ _ _ _ _ _ _ _ _ _ _ _ _ _ _ _ _ _ _ _ _ _ _ _ _ _ _ _ _ _ _ _ _ _ _ _ _ _ _ (HE.out.env HS.out)
set_option maxRecDepth 20000 in
set_option maxHeartbeats 400000 in
theorem law_out (a0 a1 : Option Addr) (n acap c ccap : Nat) (kd : Bool) (w : World) (h : n = 0 ∨ 1024 < n ∨ 1024 < c) :
    Calls Yba.prog 3 #[.slice a0 n acap, .slice a1 c ccap, .bool kd] w fun e w' => e = .returned (.bool true) ∧ Below w.heap.size w w' := by
  by_cases h0 : n = 0
  · subst h0
    go_enter Yba.func3, Yba.ntmps3
    go_wp2_with fail
    go_ret
    exact ⟨rfl, Below.refl _ _⟩
  · have h0' : ((n : Int) == 0) = false := by simp; omega
    by_cases h1 : 1024 < n
    · go_enter Yba.func3, Yba.ntmps3
      go_wp2_with fail
      go_ret
      exact ⟨rfl, Below.refl _ _⟩
    · have h2 : 1024 < c := by omega
      go_enter Yba.func3, Yba.ntmps3
      go_wp2_with fail
      go_ret
      exact ⟨rfl, Below.refl _ _⟩
end Go.Proofs.Ybulkbfpk
