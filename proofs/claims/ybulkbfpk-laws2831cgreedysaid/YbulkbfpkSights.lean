import Derived.Test.YbulkbfpkPlain
namespace Go.Proofs.Ybulkbfpk
open Go.RowKit
/-- The sightings of an instant, as a slice. -/
def Sights (B TL : Nat) (sg : Value) (m : Nat) (sv : Nat → Int) (w : World) : Prop :=
  (sg = .slice none 0 0 ∧ m = 0) ∨ ∃ GB cap, sg = .slice (some ⟨GB, 0, none⟩) m cap ∧ GB < B ∧ GB ≠ TL ∧ ∀ j, j < m → w.cell? ⟨GB, j * 4, none⟩ = some (.int .i64 0) ∧ w.cell? ⟨GB, j * 4 + 1, none⟩ = some (.int .i64 0) ∧ w.cell? ⟨GB, j * 4 + 2, none⟩ = some (.int .i32 0) ∧ w.cell? ⟨GB, j * 4 + 3, none⟩ = some (.int .i32 (sv j))
theorem Fra.alloc {TL B : Nat} {w w' : World} (h : Fra TL B w w') (hB : B ≤ w'.heap.size) (htl : TL < B) (o : Obj) : Fra TL B w (w'.alloc o) :=
  ⟨h.os, h.tape, h.output, by simp; exact Nat.le_succ_of_le h.size, fun k hk hn => (Below.heap_alloc _ _ _ (show k < _ by omega)).trans (h.block k hk hn), fun q hq => (World.cell?_alloc_lt _ _ _ (show TL < _ by omega)).trans (h.cell q hq)⟩
theorem Fra.drew {TL B : Nat} {w w' : World} (h : Fra TL B w w') : Fra TL B w w'.drew := ⟨h.os, h.tape, h.output, h.size, h.block, h.cell⟩
theorem Fra.setNew {TL B : Nat} {w w' : World} (h : Fra TL B w w') (p : Addr) (hp : B ≤ p.block) (htl : TL < B) (v : Value) : Fra TL B w (w'.setCell p v) := by
  refine ⟨h.os, h.tape, h.output, by simpa [World.setCell] using h.size, fun k hk hn => (Below.heap_setCell _ _ _ _ (fun e => by omega)).trans (h.block k hk hn), fun q hq => ?_⟩
  refine (World.cell?_of_block (a := ⟨TL, q, none⟩) (Below.heap_setCell _ _ _ _ (fun e => ?_))).trans (h.cell q hq)
  simp at e; omega
theorem TS.alloc {TL B : Nat} {X : Nat → List Value} {w : World} (h : TS TL B X w) (o : Obj) : TS TL B X (w.alloc o) := by
  obtain ⟨vs, hv, hf⟩ := h.ex
  have hB := h.hB
  have htl := h.tl
  refine ⟨⟨vs, fun i hi => ⟨(World.cell?_alloc_lt _ _ _ (show TL < _ by omega)).trans (hv i hi).1, (hv i hi).2.alloc o⟩, hf⟩, fun q => ?_, h.tl, by simp; omega⟩
  rw [World.frozen?_of_block (a := ⟨TL, q, none⟩) (w := w) (Below.heap_alloc _ _ _ (show TL < _ by omega))]
  exact h.fz q
theorem TS.drew {TL B : Nat} {X : Nat → List Value} {w : World} (h : TS TL B X w) : TS TL B X w.drew := ⟨h.ex, h.fz, h.tl, h.hB⟩
/-- A store into a cell of a block that is none of the spare rows (it is of another type), nor the timeline's. -/
theorem TS.setCell {TL B AB o : Nat} {X : Nat → List Value} {w : World} {A : Array Value} {t : TypeId} (h : TS TL B X w) (hA : w.heap[AB]? = some (.cells A t)) (ht : t ≠ 21) (hAB : AB ≠ TL) (v : Value) : TS TL B X (w.setCell ⟨AB, o, none⟩ v) := by
  obtain ⟨vs, hv, hf⟩ := h.ex
  have hB := h.hB
  refine ⟨⟨vs, fun i hi => ⟨(cell_set_ne (fun e => hAB e.1.symm)).trans (hv i hi).1, own_kept (hv i hi).2 fun k hk hBk hlk => Below.heap_setCell _ _ _ _ (fun e => ?_)⟩, hf⟩, fun q => ?_, h.tl, by simpa [World.setCell] using hB⟩
  · obtain ⟨_, h2⟩ := (hv i hi).2
    simp at e
    subst e
    rcases h2 with ⟨h2, _⟩ | ⟨g, cap, cur, h2, _, hg, _⟩
    · rw [h2] at hk; cases hk
    · rw [h2] at hk
      cases hk
      rw [hA] at hg
      cases hg
      exact ht rfl
  · rw [World.frozen?_setCell]
    exact h.fz q
theorem TS.ext {TL B : Nat} {X Y : Nat → List Value} {w : World} (h : TS TL B X w) (e : ∀ i, i < 4 → X i = Y i) : TS TL B Y w := by
  obtain ⟨vs, hv, hf⟩ := h.ex
  exact ⟨⟨vs, fun i hi => ⟨(hv i hi).1, by rw [← e i hi]; exact (hv i hi).2⟩, hf⟩, h.fz, h.tl, h.hB⟩
theorem ts_drop17 {TL B : Nat} {X : Nat → List Value} {w : World} (h : TS TL B X w) (o i : Nat) (r : Int) (hi : i < 4) (ho : o + 4 = pos i) (hlen : (X i).length ≤ 2097152) :
    Calls Yba.prog 17 #[.pointer (some ⟨TL, o, none⟩), .int .i32 r] w fun e w' => e = .returned (.tuple #[]) ∧ TS TL B (upd X i (X i ++ [.int .i32 r])) w' ∧ Fra TL B w w' ∧ ∀ k, k < w.heap.size → k ≠ TL → (∀ A fz, w.heap[k]? ≠ some (.cells A 21 fz)) → w'.heap[k]? = w.heap[k]? := by
  obtain ⟨vs, hv, hf⟩ := h.ex
  have h1 := (hv i hi).1
  rw [← ho] at h1
  refine (drop17 TL o B (vs i) (X i) r w hlen h1 (h.fz _) (hv i hi).2 h.tl h.hB).mono ?_
  rintro e w' ⟨rfl, hD⟩
  refine ⟨rfl, h.drop (r := r) i hi fun v e1 e2 => ?_⟩
  rw [(hv i hi).1] at e1
  cases e1
  rw [← ho]
  exact hD
theorem ts_drop18 {TL B : Nat} {X : Nat → List Value} {w : World} (h : TS TL B X w) (o i : Nat) (r : Int) (hi : i < 4) (ho : o + 11 = pos i) (hlen : (X i).length ≤ 2097152) :
    Calls Yba.prog 18 #[.pointer (some ⟨TL, o, none⟩), .int .i32 r] w fun e w' => e = .returned (.tuple #[]) ∧ TS TL B (upd X i (X i ++ [.int .i32 r])) w' ∧ Fra TL B w w' ∧ ∀ k, k < w.heap.size → k ≠ TL → (∀ A fz, w.heap[k]? ≠ some (.cells A 21 fz)) → w'.heap[k]? = w.heap[k]? := by
  obtain ⟨vs, hv, hf⟩ := h.ex
  have h1 := (hv i hi).1
  rw [← ho] at h1
  refine (drop18 TL o B (vs i) (X i) r w hlen h1 (h.fz _) (hv i hi).2 h.tl h.hB).mono ?_
  rintro e w' ⟨rfl, hD⟩
  refine ⟨rfl, h.drop (r := r) i hi fun v e1 e2 => ?_⟩
  rw [(hv i hi).1] at e1
  cases e1
  rw [← ho]
  exact hD
theorem upd3 {X : Nat → List Value} (sv : Nat → Int) (i : Nat) : upd (upd X 3 (X 3 ++ pickI sv i)) 3 (upd X 3 (X 3 ++ pickI sv i) 3 ++ [.int .i32 (sv i)]) = upd X 3 (X 3 ++ pickI sv (i + 1)) := by
  funext u
  by_cases e : u = 3 <;> simp [upd, e, pickI_succ]
set_option maxRecDepth 20000 in
set_option maxHeartbeats 1000000 in
theorem sights_any (TL AB B m : Nat) (sg : Value) (sv : Nat → Int) (X : Nat → List Value) (A : Array Value) (w : World) (T : TS TL B X w) (hA : w.heap[AB]? = some (.cells A 86)) (hAB : B ≤ AB) (hA11 : A[11]? = some sg) (hs : Sights B TL sg m sv w) (hlen : (X 3).length + m ≤ 2097152) :
    Calls Yba.prog 16 #[.pointer (some ⟨TL, 0, none⟩), .pointer (some ⟨AB, 0, none⟩)] w fun e w' => e = .returned (.tuple #[]) ∧ TS TL B (upd X 3 (X 3 ++ pickI sv m)) w' ∧ Fra TL B w w' ∧ w'.heap[AB]? = some (.cells (A.setIfInBounds 11 (.slice none 0 0)) 86) := by
  have hc11 := (cells_at hA 11).trans hA11
  have hf11 := frozen_at hA 11
  have htl := T.tl
  have hBw := T.hB
  have hABl : AB < w.heap.size := by
    rcases Nat.lt_or_ge AB w.heap.size with h | h
    · exact h
    · rw [Array.getElem?_eq_none h] at hA; cases hA
  have hset : Hid (∀ wr : World, wr.heap[AB]? = some (.cells A 86) → (wr.setCell ⟨AB, 11, none⟩ (.slice none 0 0)).heap[AB]? = some (.cells (A.setIfInBounds 11 (.slice none 0 0)) 86)) := by
    intro wr h
    exact heap_setCell_same wr AB 11 A 86 _ h
  have H := hide (show _ ∧ _ from ⟨T, hA⟩)
  rcases hs with ⟨rfl, rfl⟩ | ⟨GB, cap, rfl, hG, hGT, hcells⟩
  · clear T hA
    go_enter Yba.func16, Yba.ntmps16
    go_wp2_with fail
    go_loopw [11] (fun iv wr => iv = .int .i64 0 ∧ wr = w) (fun iv _ => 0)
    case atStart => exact ⟨rfl, rfl⟩
    case round =>
      obtain ⟨rfl, rfl⟩ := hrel
      go_wp2_with fail
      go_end0
      refine ⟨rfl, ?_, ?_, ?_⟩
      · exact (H.out.1.setCell (t := 86) H.out.2 (by decide) (by omega) _).ext (by intro i hi; by_cases e : i = 3 <;> simp [upd, e, pickI])
      · exact (Fra.refl _ _ _).setNew _ hAB htl _
      · exact hset.out _ H.out.2
  · clear hA T
    have hc := hide hcells
    clear hcells
    go_enter Yba.func16, Yba.ntmps16
    go_wp2_with fail
    go_loopw [11] (fun iv wr => ∃ i : Nat, i ≤ m ∧ iv = .int .i64 i ∧ TS TL B (upd X 3 (X 3 ++ pickI sv i)) wr ∧ Fra TL B w wr ∧ wr.heap[AB]? = some (.cells A 86)) (fun iv _ => m - (intOf iv).toNat)
    case atStart => exact ⟨0, Nat.zero_le _, rfl, H.out.1.ext (by intro i hi; by_cases e : i = 3 <;> simp [upd, e, pickI]), Fra.refl _ _ _, H.out.2⟩
    case round =>
      obtain ⟨i, hi, rfl, Ti, Fi, Ai⟩ := hrel
      have HT := hide (show _ ∧ _ ∧ _ from ⟨Ti, Fi, Ai⟩)
      have hBr := Ti.hB
      have hszr : AB < wr.heap.size := Nat.lt_of_lt_of_le hABl Fi.size
      by_cases him : i < m
      · obtain ⟨g0, g1, g2, g3⟩ := hc.out i him
        have f0 := (World.cell?_of_block (a := ⟨GB, i * 4, none⟩) (Fi.block GB hG hGT)).trans g0
        have f1 := (World.cell?_of_block (a := ⟨GB, i * 4 + 1, none⟩) (Fi.block GB hG hGT)).trans g1
        have f2 := (World.cell?_of_block (a := ⟨GB, i * 4 + 2, none⟩) (Fi.block GB hG hGT)).trans g2
        have f3 := (World.cell?_of_block (a := ⟨GB, i * 4 + 3, none⟩) (Fi.block GB hG hGT)).trans g3
        clear g0 g1 g2 g3 Ti Fi Ai
        have HL : (upd X 3 (X 3 ++ pickI sv i) 3).length ≤ 2097152 := by simp [upd, pickI_length]; omega
        have HC := fun o => hide (ts_drop17 (HT.out.1.alloc o).drew 49 3 (sv i) (by decide) (by decide) HL)
        clear HL
        go_upto_region 3 with fail
        go_region_with (go_at_call 17; go_loud (refine (HC _).out.mono ?_; rintro e' w' ⟨rfl, q1, q2, q3⟩; have HQ := hide (show _ ∧ _ ∧ _ from ⟨q1, q2, q3⟩); clear q1 q2 q3))
        all_goals go_wp2_with fail
        all_goals go_roundw
        case rel => exact ⟨i + 1, by omega, by simp, upd3 sv i ▸ HQ.out.1, ((HT.out.2.1.alloc hBr htl _).drew).trans HQ.out.2.1, ((HQ.out.2.2 AB (by simp; omega) (by omega) (by intro A' fz' e; rw [show ((wr.alloc (.cells #[.int .i64 0, .int .i64 0, .int .i32 0, .int .i32 (sv i)] 123)).drew).heap[AB]? = wr.heap[AB]? from Below.heap_alloc _ _ _ hszr, HT.out.2.2] at e; cases e)).trans (Below.heap_alloc _ _ _ hszr)).trans HT.out.2.2⟩
        case measure => simp [intOf]; omega
      · clear Ti Fi
        have ec := (cells_at Ai 11).trans hA11
        have ef := frozen_at Ai 11
        have him' : i = m := by omega
        subst him'
        go_wp2_with fail
        go_end0
        refine ⟨rfl, HT.out.1.setCell (t := 86) HT.out.2.2 (by decide) (by omega) _, HT.out.2.1.setNew _ hAB htl _, hset.out _ HT.out.2.2⟩
end Go.Proofs.Ybulkbfpk
