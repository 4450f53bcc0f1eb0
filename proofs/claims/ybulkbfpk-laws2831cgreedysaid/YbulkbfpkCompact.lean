import Derived.Test.YbulkbfpkClear
namespace Go.Proofs.Ybulkbfpk
open Go.RowKit
theorem zeros_nil : zeros 0 = [] := List.length_eq_zero_iff.1 (by rw [zeros_len])
/-- The timeline compacted; m: the length that its two slices have. -/
structure Cp (I : Inp) (P : Ptrs) (D : Ids) (c0 : Nat → Int) (K m : Nat) (w : World) : Prop where
  inst : ∀ i, i < K → ∀ j, j < 14 → w.cell? ⟨D.IN, i * 14 + j, none⟩ = some (I.ic P (I.rm I.n i) (I.kp I.n i) j)
  zero : ∀ i, K ≤ i → i < I.n → ∀ j, j < 14 → w.cell? ⟨D.IN, i * 14 + j, none⟩ = some ((zs[j]?).getD (.bool false))
  atms : ∀ i, i < K → w.cell? ⟨D.AT, i, none⟩ = some (.int .i64 (I.atm (I.kp I.n i)))
  curs : ∀ i, i < D.c → w.cell? ⟨D.CU, i * 7 + 1, none⟩ = some (.int .i64 (I.cu c0 I.n i))
  h6 : w.cell? ⟨D.TL, 6, none⟩ = some (.slice (some ⟨D.AT, 0, none⟩) m I.n)
  h7 : w.cell? ⟨D.TL, 7, none⟩ = some (.slice (some ⟨D.IN, 0, none⟩) m I.n)
  h8 : w.cell? ⟨D.TL, 8, none⟩ = some (.slice (some ⟨D.CU, 0, none⟩) D.c D.c)
  ts : TS D.TL D.B (I.X I.n) w
theorem Cp.drew {I : Inp} {P : Ptrs} {D : Ids} {c0 : Nat → Int} {K m : Nat} {w : World} (h : Cp I P D c0 K m w) : Cp I P D c0 K m w.drew := ⟨h.inst, h.zero, h.atms, h.curs, h.h6, h.h7, h.h8, h.ts.drew⟩
theorem Tl.clear {I : Inp} {P : Ptrs} {D : Ids} {c0 : Nat → Int} {K : Nat} {w : World} (h : Tl I P D (I.src I.n) (I.rr I.n) (I.cu c0 I.n) (I.X I.n) w) (ok : D.Ok) (hK : K = I.K I.n) : Cp I P D c0 K I.n (w.setCells D.IN (K * 14) (zeros (I.n - K))) := by
  have hKn : K ≤ I.n := by rw [hK]; exact I.K_le _
  have hl := zeros_len (I.n - K)
  have hne : ∀ b, b ≠ D.IN → ∀ o, (w.setCells D.IN (K * 14) (zeros (I.n - K))).cell? ⟨b, o, none⟩ = w.cell? ⟨b, o, none⟩ := fun b hb o => World.cell?_of_block (a := ⟨b, o, none⟩) (heap_setCells _ _ _ _ _ hb)
  refine ⟨fun i hi j hj => ?_, fun i hKi hi j hj => ?_, fun i hi => ?_, fun i hi => ?_, (hne _ ok.a2 _).trans h.h6, (hne _ ok.a2 _).trans h.h7, (hne _ ok.a2 _).trans h.h8, h.ts.keep (by rw [size_setCells]; exact Nat.le_refl _) (fun k h1 h2 => heap_setCells _ _ _ _ _ (by have := ok.b3; omega)) (heap_setCells _ _ _ _ _ ok.a2)⟩
  · rw [World.cell?_setCells_out D.IN _ _ _ ⟨D.IN, i * 14 + j, none⟩ (fun _ _ => by show i * 14 + j < _ ∨ _ ≤ i * 14 + j; omega), h.inst i (by omega) j hj]
    have : i < I.K I.n := by omega
    simp [Inp.src, Inp.rr, this]
  · have e : (⟨D.IN, i * 14 + j, none⟩ : Addr) = ⟨D.IN, K * 14 + ((i - K) * 14 + j), none⟩ := by
      congr 1; omega
    rw [e, World.cell?_setCells_in D.IN (zeros (I.n - K)) (K * 14) w (fun q hq => ?_) _ (by omega), zeros_at (I.n - K) (i - K) j (by omega) hj]
    have := h.inst (K + q / 14) (by omega) (q % 14) (Nat.mod_lt _ (by decide))
    rw [show (K + q / 14) * 14 + q % 14 = K * 14 + q by omega] at this
    rw [this]
    rfl
  · rw [hne _ ok.a4, h.atms i (by omega)]
    have : i < I.K I.n := by omega
    simp [Inp.src, this]
  · rw [hne _ ok.a6.symm]; exact h.curs i hi
/-- The two headers are set. -/
theorem Cp.heads {I : Inp} {P : Ptrs} {D : Ids} {c0 : Nat → Int} {K m : Nat} {w : World} (h : Cp I P D c0 K m w) (ok : D.Ok) : Cp I P D c0 K K ((w.setCell ⟨D.TL, 6, none⟩ (.slice (some ⟨D.AT, 0, none⟩) K I.n)).setCell ⟨D.TL, 7, none⟩ (.slice (some ⟨D.IN, 0, none⟩) K I.n)) := by
  have hc : ∀ b o, ¬ (b = D.TL ∧ (o = 6 ∨ o = 7)) → ((w.setCell ⟨D.TL, 6, none⟩ (.slice (some ⟨D.AT, 0, none⟩) K I.n)).setCell ⟨D.TL, 7, none⟩ (.slice (some ⟨D.IN, 0, none⟩) K I.n)).cell? ⟨b, o, none⟩ = w.cell? ⟨b, o, none⟩ := fun b o hn => by
    rw [cell_set_ne (fun e => hn ⟨e.1, .inr e.2⟩), cell_set_ne (fun e => hn ⟨e.1, .inl e.2⟩)]
  have e7 : (w.setCell ⟨D.TL, 6, none⟩ (.slice (some ⟨D.AT, 0, none⟩) K I.n)).cell? ⟨D.TL, 7, none⟩ = _ := (cell_set_ne (by omega)).trans h.h7
  refine ⟨fun i hi j hj => (hc _ _ (fun e => ok.a2 e.1.symm)).trans (h.inst i hi j hj), fun i h1 hi j hj => (hc _ _ (fun e => ok.a2 e.1.symm)).trans (h.zero i h1 hi j hj), fun i hi => (hc _ _ (fun e => ok.a1 e.1.symm)).trans (h.atms i hi), fun i hi => (hc _ _ (fun e => ok.a3 e.1.symm)).trans (h.curs i hi), (cell_set_ne (by omega)).trans (World.cell?_setCell_same _ _ _ h.h6), World.cell?_setCell_same _ _ _ e7, (hc _ _ (by omega)).trans h.h8, ?_⟩
  obtain ⟨vs, hv, hf⟩ := h.ts.ex
  have hp : ∀ i, i < 4 → pos i ≠ 6 ∧ pos i ≠ 7 := by decide
  refine ⟨⟨vs, fun i hi => ⟨(hc _ _ (by have := hp i hi; omega)).trans (hv i hi).1, own_kept (hv i hi).2 fun k hk hBk hlk => ?_⟩, hf⟩, fun q => ?_, h.ts.tl, by simpa [World.setCell] using h.ts.hB⟩
  · have := ok.b1
    rw [Below.heap_setCell _ _ _ _ (show k ≠ D.TL by omega), Below.heap_setCell _ _ _ _ (show k ≠ D.TL by omega)]
  · rw [World.frozen?_setCell, World.frozen?_setCell]
    exact h.ts.fz q
def Inp.box (I : Inp) (P : Ptrs) (k : Nat) : Array Value := #[.slice (P.sp k) (I.s k) (I.s k), .slice (P.ep k) (I.e k) (I.e k), .int .i64 (I.fre k), .int .i64 (I.rom k), .int .i64 0, .int .i32 (I.opn k), .int .i32 (I.dev k), .int .i32 0, .int .i32 0, .int .i32 (I.cor k), .bool false, .slice (P.gp k) (I.sm k) (I.sm k), .int .i64 0, .slice none 0 0]
theorem Tl.extC {I : Inp} {P : Ptrs} {D : Ids} {src : Nat → Nat} {rr : Nat → Int} {C C' : Nat → Int} {X : Nat → List Value} {w : World} (h : Tl I P D src rr C X w) (e : ∀ i, i < D.c → C i = C' i) : Tl I P D src rr C' X w :=
  ⟨h.inst, h.atms, fun i hi => by rw [← e i hi]; exact h.curs i hi, h.h6, h.h7, h.h8, h.kd, h.fAT, h.fIN, h.fCU, h.ts, h.sg⟩
set_option maxRecDepth 100000 in
set_option maxHeartbeats 2000000 in
theorem compact_any (I : Inp) (P : Ptrs) (D : Ids) (c0 : Nat → Int) (w : World) (ok : D.Ok) (hn : 0 < I.n) (hn2 : I.n ≤ 1024) (hc2 : D.c ≤ 1024) (hsm : ∀ k, k < I.n → I.sm k ≤ 1024) (hB : w.heap.size = D.B) (T : Tl I P D (I.src 1) (I.rr 1) (I.cu c0 1) (I.X 1) w) :
    Calls Yba.prog 6 #[.pointer (some ⟨D.TL, 0, none⟩)] w fun e w' => e = .returned (.tuple #[]) ∧ Cp I P D c0 (I.K I.n) (I.K I.n) w' ∧ But D.S w w' := by
  have HT := hide T
  have z0 := T.ts.fz
  clear T
  go_enter Yba.func6, Yba.ntmps6
  go_wp2_with fail
  go_loopw [2, 3] (fun kv iv wr => ∃ k : Nat, 0 < k ∧ k ≤ I.n ∧ kv = .int .i64 (I.K k) ∧ iv = .int .i64 k ∧ Tl I P D (I.src k) (I.rr k) (I.cu c0 k) (I.X k) wr ∧ But D.S w wr) (fun _ iv _ => I.n - (intOf iv).toNat)
  case atStart => exact ⟨1, by omega, by omega, by simp [Inp.K, Inp.keep], rfl, HT.out, But.refl _ _⟩
  case round =>
    obtain ⟨k, hk0, hkn, rfl, rfl, Tk, Bk⟩ := hrel
    have HK := hide (show _ ∧ _ from ⟨Tk, Bk⟩)
    have i7 := Tk.h7
    by_cases hlt : k < I.n
    · have hI := fun j hj => Tk.inst k hlt j hj
      rw [Inp.src_self, Inp.rr_self] at hI
      have g0 := hI 0 (by decide)
      have g1 := hI 1 (by decide)
      have g2 := hI 2 (by decide)
      have g3 := hI 3 (by decide)
      have g4 := hI 4 (by decide)
      have g5 := hI 5 (by decide)
      have g6 := hI 6 (by decide)
      have g7 := hI 7 (by decide)
      have g8 := hI 8 (by decide)
      have g9 := hI 9 (by decide)
      have g10 := hI 10 (by decide)
      have g11 := hI 11 (by decide)
      have g12 := hI 12 (by decide)
      have g13 := hI 13 (by decide)
      simp only [Inp.ic, Nat.add_zero] at g0 g1 g2 g3 g4 g5 g6 g7 g8 g9 g10 g11 g12 g13
      clear Tk Bk hI
      have hkeep : Hid (I.keep k = (decide (0 < I.s k) || decide (0 < I.e k))) := I.keep_iff k hk0
      have hKk := I.K_le k
      have hKp := I.K_pos k hk0
      obtain ⟨K, hKe⟩ : ∃ K, K = I.K k := ⟨_, rfl⟩
      have HKe := hide hKe
      rw [← hKe] at hKk hKp ⊢
      clear hKe
      go_upto_region 5 with fail
      go_cut [4, 32] (fun p b w2 => ∃ AB, p = .pointer (some ⟨AB, 0, none⟩) ∧ b = .bool (I.keep k) ∧ Tl I P D (I.src k) (I.rr k) (I.cu c0 k) (I.X k) w2 ∧ But D.S w w2 ∧ D.B ≤ AB ∧ w2.heap[AB]? = some (.cells (I.box P k) 86))
      case first =>
        by_cases hs : I.s k = 0
        · have hkeep2 : I.keep k = decide (0 < I.e k) := by rw [hkeep.out]; simp [hs]
          rw [hs]
          go_wp2_with fail
          go_meet
          case rel => exact ⟨_, rfl, by rw [hkeep2], HK.out.1.alloc ok _, HK.out.2.alloc _, HK.out.1.ts.hB, by rw [newBlock]; simp [Inp.box, hs]⟩
        · have hs' : 0 < I.s k := by omega
          have hkeep2 : I.keep k = true := by rw [hkeep.out]; simp [hs']
          go_wp2_with fail
          go_meet
          case rel => exact ⟨_, rfl, by rw [hkeep2], HK.out.1.alloc ok _, HK.out.2.alloc _, HK.out.1.ts.hB, by rw [newBlock]; rfl⟩
      case rest =>
        clear g0 g1 g2 g3 g4 g5 g6 g7 g8 g9 g10 g11 g12 g13 i7 HK
        obtain ⟨AB, rfl, rfl, Tk, Bk, d4, d5⟩ := hcut
        have HK := hide (show _ ∧ _ from ⟨Tk, Bk⟩)
        have i6 := Tk.h6
        have i7 := Tk.h7
        have zA := Tk.fAT
        have zI := Tk.fIN
        have at1 := Tk.atms k hlt
        rw [Inp.src_self] at at1
        have at2 := Tk.atms K (by omega)
        simp only [Inp.box] at d5
        have q0 := cells_at d5 0
        have q1 := cells_at d5 1
        have q2 := cells_at d5 2
        have q3 := cells_at d5 3
        have q4 := cells_at d5 4
        have q5 := cells_at d5 5
        have q6 := cells_at d5 6
        have q7 := cells_at d5 7
        have q8 := cells_at d5 8
        have q9 := cells_at d5 9
        have q10 := cells_at d5 10
        have q11 := cells_at d5 11
        have q12 := cells_at d5 12
        have q13 := cells_at d5 13
        simp only [List.getElem?_toArray, List.getElem?_cons_zero, List.getElem?_cons_succ] at q0 q1 q2 q3 q4 q5 q6 q7 q8 q9 q10 q11 q12 q13
        go_upto_if 32 with fail
        go_cut [2] (fun kv w3 => kv = .int .i64 (I.K (k + 1)) ∧ Tl I P D (I.src (k + 1)) (I.rr (k + 1)) (I.cu c0 k) (I.X (k + 1)) w3 ∧ But D.S w w3)
        case first =>
          cases hke : I.keep k with
          | true =>
            have hI := fun j hj => Tk.inst K (by omega) j hj
            have p0 := hI 0 (by decide)
            have p1 := hI 1 (by decide)
            have p2 := hI 2 (by decide)
            have p3 := hI 3 (by decide)
            have p4 := hI 4 (by decide)
            have p5 := hI 5 (by decide)
            have p6 := hI 6 (by decide)
            have p7 := hI 7 (by decide)
            have p8 := hI 8 (by decide)
            have p9 := hI 9 (by decide)
            have p10 := hI 10 (by decide)
            have p11 := hI 11 (by decide)
            have p12 := hI 12 (by decide)
            have p13 := hI 13 (by decide)
            simp only [Inp.ic, Nat.add_zero] at p0 p1 p2 p3 p4 p5 p6 p7 p8 p9 p10 p11 p12 p13
            clear Tk Bk hI
            go_wp2_with fail
            go_region
            go_wp2_with fail
            go_meet
            case rel =>
              obtain ⟨e1, e2, e3, e4⟩ := Inp.K_keep hke
              refine ⟨by rw [e1, ← HKe.out]; rfl, ?_, ?_⟩
              · rw [Inp.src_keep hke, Inp.rr_keep hke, e4, ← HKe.out]
                exact HK.out.1.keep ok (by omega) k (I.rom k)
              · exact ((HK.out.2.setCell (p := ⟨D.AT, K, none⟩) (by simp [Ids.S]) _).setCells (b := D.IN) (by simp [Ids.S]) (I.row P (I.rom k) k) (K * 14)).drew
          | false =>
            obtain ⟨K1, rfl⟩ : ∃ K1, K = K1 + 1 := ⟨K - 1, by omega⟩
            have p3 := Tk.inst K1 (by omega) 3 (by decide)
            simp only [Inp.ic] at p3
            clear Tk Bk
            go_wp2_with fail
            go_region
            generalize hm : (if I.rom k < I.rr k K1 then I.rom k else I.rr k K1) = m
            have hX := I.X_len 1024 (by decide) hsm k
            have hT := (HK.out.1.room ok (K := K1) (by omega) m).drew ok
            have HC := hide (drops_any I k D.TL AB D.B _ (I.X k) _ _ hT.ts hT.kd ((Below.heap_setCell _ _ _ _ (by have := ok.b3; show AB ≠ D.IN; omega)).trans d5) d4 rfl rfl rfl rfl (hT.sg k hlt).sights (fun i => by have := hX i (by omega); have := hsm k hlt; omega))
            have HT3 := hide hT
            clear hT hX
            go_wp2_with fail
            refine HC.out.mono ?_
            rintro e3 w3 ⟨rfl, t3, f3⟩
            have H3 := hide (show _ ∧ _ from ⟨t3, f3⟩)
            clear t3 f3
            go_wp2_with fail
            go_meet
            case rel =>
              obtain ⟨e1, e2, e3, e4⟩ := Inp.K_skip hke
              refine ⟨by rw [e1, ← HKe.out]; rfl, ?_, ?_⟩
              · rw [Inp.src_skip hke, Inp.rr_skip hk0 hke, e4, ← HKe.out]
                have em : min (I.rr k K1) (I.rom k) = if I.rom k < I.rr k K1 then I.rom k else I.rr k K1 := by split <;> omega
                rw [show K1 + 1 - 1 = K1 from rfl, em, hm]
                exact HT3.out.fra ok H3.out.1 H3.out.2
              · exact but_fra ((HK.out.2.setCell (p := ⟨D.IN, K1 * 14 + 3, none⟩) (by simp [Ids.S]) _).drew) (by omega) H3.out.2
        case rest =>
          clear q0 q1 q2 q3 q4 q5 q6 q7 q8 q9 q10 q11 q12 q13 i6 i7 zA zI at1 at2 HK d5 d4 Tk Bk hkeep
          clear hKk hKp HKe
          obtain ⟨rfl, Tk, Bk⟩ := hcut
          have hKk := I.K_le (k + 1)
          have hKp := I.K_pos (k + 1) (by omega)
          have hnx : Hid (I.nx k = I.K (k + 1) - 1) := rfl
          obtain ⟨K, hKe⟩ : ∃ K, K = I.K (k + 1) := ⟨_, rfl⟩
          rw [← hKe] at hKk hKp hnx ⊢
          have HKe := hide hKe
          clear hKe
          obtain ⟨K1, rfl⟩ : ∃ K1, K = K1 + 1 := ⟨K - 1, by omega⟩
          have HK := hide (show _ ∧ _ from ⟨Tk, Bk⟩)
          have i8 := Tk.h8
          clear Tk Bk
          go_wp2_with fail
          go_loopw [82] (fun iv wr => ∃ i : Nat, i ≤ D.c ∧ iv = .int .i64 i ∧ Tl I P D (I.src (k + 1)) (I.rr (k + 1)) (I.cui c0 k i) (I.X (k + 1)) wr ∧ But D.S w wr) (fun iv _ => D.c - (intOf iv).toNat)
          case atStart =>
            refine ⟨0, Nat.zero_le _, rfl, ?_, HK.out.2⟩
            have : I.cui c0 k 0 = I.cu c0 k := by
              funext a; simp [Inp.cui]
            rw [this]
            exact HK.out.1
          case round =>
            obtain ⟨i, hic, rfl, Ti, Bi⟩ := hrel
            have HI := hide (show _ ∧ _ from ⟨Ti, Bi⟩)
            have i8 := Ti.h8
            by_cases hil : i < D.c
            · have cc := Ti.curs i hil
              have zC := Ti.fCU
              rw [show I.cui c0 k i i = I.cu c0 k i by simp [Inp.cui]] at cc
              clear Ti Bi
              by_cases heq : I.cu c0 k i = k
              · rw [heq] at cc
                go_wp2_with fail
                go_roundw
                case rel =>
                  refine ⟨i + 1, by omega, by simp, ?_, HI.out.2.setCell (by simp [Ids.S]) _⟩
                  have := HI.out.1.cur ok hil K1
                  have e : upd (I.cui c0 k i) i K1 = I.cui c0 k (i + 1) := by
                    funext a
                    by_cases e : a = i
                    · subst e
                      rw [upd_eq]
                      simp [Inp.cui, Inp.cu_eq heq, hnx.out]
                    · rw [upd_ne _ _ e]
                      by_cases e2 : a < i
                      · simp [Inp.cui, e2, Nat.lt_succ_of_lt e2]
                      · simp [Inp.cui, e2, show ¬ a < i + 1 by omega]
                  rw [← e]
                  exact this
                case measure => simp [intOf]; omega
              · have heq' : (I.cu c0 k i == (k : Int)) = false := by simpa using heq
                go_wp2_with fail
                go_roundw
                case rel =>
                  refine ⟨i + 1, by omega, by simp, ?_, HI.out.2⟩
                  have e : I.cui c0 k i = I.cui c0 k (i + 1) := by
                    funext a
                    by_cases e : a = i
                    · subst e
                      simp [Inp.cui, Inp.cu_ne heq]
                    · by_cases e2 : a < i
                      · simp [Inp.cui, e2, Nat.lt_succ_of_lt e2]
                      · simp [Inp.cui, e2, show ¬ a < i + 1 by omega]
                  rw [← e]
                  exact HI.out.1
                case measure => simp [intOf]; omega
            · clear Ti Bi
              have hic' : i = D.c := by omega
              subst hic'
              go_wp2_with fail
              case roundEnd =>
                refine ⟨⟨k + 1, by omega, by omega, by rw [← HKe.out], by simp, ?_, HI.out.2⟩, by simp [intOf]; omega⟩
                exact HI.out.1.extC fun a ha => by simp [Inp.cui, ha]
    · have hke : k = I.n := by omega
      subst hke
      have hKk := I.K_le I.n
      have i6 := Tk.h6
      obtain ⟨K, hKe⟩ : ∃ K, K = I.K I.n := ⟨_, rfl⟩
      rw [← hKe] at hKk ⊢
      have HKe := hide hKe
      clear hKe
      have hcl : ∀ ty, (Builtin.clear_ #[36] ty #[.slice (some ⟨D.IN, K * 14, none⟩) (I.n - K) (I.n - K)]).run Yba.prog wr = .ok (.tuple #[]) (wr.setCells D.IN (K * 14) (zeros (I.n - K))) := fun ty => run_clear wr ty D.IN (K * 14) (I.n - K) (I.n - K) (fun j hj => by
        have := Tk.inst (K + j / 14) (by omega) (j % 14) (Nat.mod_lt _ (by decide))
        rw [show (K + j / 14) * 14 + j % 14 = K * 14 + j by omega] at this
        rw [this]
        rfl) (fun j hj => Tk.fIN _)
      have hcl0 : ∀ ty, (Builtin.clear_ #[36] ty #[.slice (some ⟨D.IN, 0, none⟩) 0 0]).run Yba.prog wr = .ok (.tuple #[]) wr := fun ty => (run_clear wr ty D.IN 0 0 0 (fun j hj => by omega) (fun j hj => by omega)).trans (by rw [zeros_nil]; rfl)
      have hCp := hide (Tk.clear ok HKe.out)
      clear Tk Bk
      go_upto_region 17 with fail
      go_cut [2] (fun kv wz => kv = .int .i64 K ∧ Cp I P D c0 K I.n wz ∧ But D.S w wz)
      case first =>
        rcases Nat.lt_or_ge K I.n with hlt2 | hge2
        · go_wp2_with fail
          go_meet
          case rel => exact ⟨rfl, hCp.out, HK.out.2.setCells (by simp [Ids.S]) _ _⟩
        · have hge3 : K = I.n := by omega
          subst hge3
          go_wp2_with fail
          go_meet
          case rel =>
            have := hCp.out
            rw [Nat.sub_self, zeros_nil] at this
            exact ⟨rfl, this, HK.out.2⟩
      case rest =>
        obtain ⟨rfl, C1, B1⟩ := hcut
        have HC := hide (show _ ∧ _ from ⟨C1, B1⟩)
        clear hcl hcl0 hCp i6 i7 HK
        have i6 := C1.h6
        have i7 := C1.h7
        have zf := C1.ts.fz
        clear C1 B1
        go_wp2_with fail
        go_region
        all_goals go_wp2_with fail
        all_goals go_end0
        all_goals exact ⟨rfl, by rw [← HKe.out]; exact (HC.out.1.heads ok).drew, ((HC.out.2.setCell (p := ⟨D.TL, 6, none⟩) (by simp [Ids.S]) _).setCell (p := ⟨D.TL, 7, none⟩) (by simp [Ids.S]) _).drew⟩
end Go.Proofs.Ybulkbfpk
