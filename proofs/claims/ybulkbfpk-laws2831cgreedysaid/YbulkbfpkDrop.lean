import Derived.Test.YbulkbfpkBase
namespace Go.Proofs.Ybulkbfpk
open Go.RowKit
theorem info21 : (Yba.prog.info? 21).map (fun i => (i.zero, i.size, i.bytes)) = some (some (.int .i32 0), 1, 4) := by kernel_rfl
theorem info21_parts : ∃ i, Yba.prog.info? 21 = some i ∧ i.zero = some (.int .i32 0) ∧ i.size = 1 ∧ i.bytes = 4 := by
  have := info21
  cases h : Yba.prog.info? 21 with
  | none => rw [h] at this; cases this
  | some i => rw [h] at this; simp at this; exact ⟨i, rfl, this⟩
/-- What 'spare = append(spare, r)' does: the cell at 'p' of block 'b'. -/
structure Dropped (b p B : Nat) (v : Value) (xs : List Value) (r : Int) (w w' : World) : Prop where
  new : ∃ v', w'.cell? ⟨b, p, none⟩ = some v' ∧ w'.ownsRow B 21 1 v' (xs.length + 1) (xs ++ [.int .i32 r]) ∧ (v'.ownBlock = v.ownBlock ∨ ∃ g, v'.ownBlock = some g ∧ w.heap.size ≤ g)
  cell : ∀ q, q ≠ p → w'.cell? ⟨b, q, none⟩ = w.cell? ⟨b, q, none⟩
  fz : ∀ q, w'.frozen? ⟨b, q, none⟩ = w.frozen? ⟨b, q, none⟩
  os : w'.os = w.os
  tape : w'.tape = w.tape
  output : w'.output = w.output
  size : w.heap.size ≤ w'.heap.size
  block : ∀ k, k < w.heap.size → k ≠ b → some k ≠ v.ownBlock → w'.heap[k]? = w.heap[k]?
theorem dropped_of {b p B g cap : Nat} {v : Value} {xs : List Value} {r : Int} {w w2 : World} (hc : w.cell? ⟨b, p, none⟩ = some v) (hown : w.ownsRow B 21 1 v xs.length xs) (hb : b < B) (hB : B ≤ w.heap.size)
    (h1 : w2.ownsRow B 21 1 (.slice (some ⟨g, 0, none⟩) (xs.length + 1) cap) (xs.length + 1) (xs ++ [.int .i32 r])) (h2 : (w.alloc (.cells #[.int .i32 r] 21)).grownBy w2 v.ownBlock) (h3 : v.ownBlock = some g ∨ g = w.heap.size + 1) :
    w2.cell? ⟨b, p, none⟩ = some v ∧ w2.frozen? ⟨b, p, none⟩ = w.frozen? ⟨b, p, none⟩ ∧ Dropped b p B v xs r w (w2.setCell ⟨b, p, none⟩ (.slice (some ⟨g, 0, none⟩) (xs.length + 1) cap)) := by
  have hbl : b < w.heap.size := by omega
  have hnb : some b ≠ v.ownBlock := by
    intro e
    have := (hown.lt b e.symm).1
    omega
  have hblk : ∀ k, k < w.heap.size → some k ≠ v.ownBlock → w2.heap[k]? = w.heap[k]? := fun k hk hn => (h2.block k (by simp; omega) hn).trans (Below.heap_alloc _ _ _ hk)
  have hbb := hblk b hbl hnb
  have e1 : w2.cell? ⟨b, p, none⟩ = some v := (World.cell?_of_block (a := ⟨b, p, none⟩) hbb).trans hc
  refine ⟨e1, World.frozen?_of_block (a := ⟨b, p, none⟩) hbb, ⟨_, World.cell?_setCell_same _ _ _ e1, ?_, ?_⟩, fun q hq => (cell_set_ne (by omega)).trans (World.cell?_of_block (a := ⟨b, q, none⟩) hbb), fun q => by rw [World.frozen?_setCell]; exact World.frozen?_of_block (a := ⟨b, q, none⟩) hbb,
    h2.os, h2.tape, h2.output, ?_, fun k hk hkb hn => (Below.heap_setCell _ _ _ _ hkb).trans (hblk k hk hn)⟩
  · exact ownsRow_setCell_below h1 (by exact hb) _
  · rcases h3 with h3 | h3
    · exact .inl h3.symm
    · exact .inr ⟨g, rfl, by omega⟩
  · have := h2.size
    simp at this ⊢
    omega
set_option maxRecDepth 20000 in
set_option maxHeartbeats 400000 in
theorem drop17 (b o B : Nat) (v : Value) (xs : List Value) (r : Int) (w : World) (hlen : xs.length ≤ 2097152) (hc : w.cell? ⟨b, o + 4, none⟩ = some v) (hz : w.frozen? ⟨b, o + 4, none⟩ = false) (hown : w.ownsRow B 21 1 v xs.length xs) (hb : b < B) (hB : B ≤ w.heap.size) :
    Calls Yba.prog 17 #[.pointer (some ⟨b, o, none⟩), .int .i32 r] w fun e w' => e = .returned (.tuple #[]) ∧ Dropped b (o + 4) B v xs r w w' := by
  obtain ⟨i0, hi, hz0, hs0, hb0⟩ := info21_parts
  have HX := hide (show _ ∧ _ from ⟨hc, hown⟩)
  have hnews : Hid (∀ j u, [Value.int .i32 r][j]? = some u → (w.alloc (.cells #[.int .i32 r] 21)).cell? ((⟨w.heap.size, 0, none⟩ : Addr).add j) = some u) := by
    intro j u hj
    cases j with
    | zero => cases hj; rw [show (⟨w.heap.size, 0, none⟩ : Addr).add 0 = ⟨w.heap.size, 0, none⟩ from rfl, World.cell?_alloc_new]; rfl
    | succ j => cases hj
  have hone : Hid (∀ u ∈ [Value.int .i32 r], u.oneCell' = true) := by
    intro u hu
    rcases List.mem_singleton.1 hu with rfl
    rfl
  go_enter Yba.func17, Yba.ntmps17
  go_wp2_with (at_builtin; go_loud (refine wpList_append_lies _ rfl (.tmp 8) (.tmp 10) 24 rfl B 21 i0 _ 1 4 Yba.underlying24 hi hz0 hs0 hb0 rfl (by decide) v xs.length xs rfl (hown.alloc _) ⟨w.heap.size, 0, none⟩ 1 1 [.int .i32 r] rfl rfl hnews.out hone.out (by decide) (by unfold maxLen; omega) (by omega) (by simp; omega) (w.heap.size + 1) (by simp) ?_; intro g cap w2 h1 h2 h3 h4; obtain ⟨k1, k2, k3⟩ := dropped_of HX.out.1 HX.out.2 hb hB h1 h2 h3; have k3' := hide k3; rw [hz] at k2; clear h1 h2 h3 k3 hc hown))
  go_end0
  exact ⟨rfl, k3'.out⟩
set_option maxRecDepth 20000 in
set_option maxHeartbeats 400000 in
theorem drop18 (b o B : Nat) (v : Value) (xs : List Value) (r : Int) (w : World) (hlen : xs.length ≤ 2097152) (hc : w.cell? ⟨b, o + 11, none⟩ = some v) (hz : w.frozen? ⟨b, o + 11, none⟩ = false) (hown : w.ownsRow B 21 1 v xs.length xs) (hb : b < B) (hB : B ≤ w.heap.size) :
    Calls Yba.prog 18 #[.pointer (some ⟨b, o, none⟩), .int .i32 r] w fun e w' => e = .returned (.tuple #[]) ∧ Dropped b (o + 11) B v xs r w w' := by
  obtain ⟨i0, hi, hz0, hs0, hb0⟩ := info21_parts
  have HX := hide (show _ ∧ _ from ⟨hc, hown⟩)
  have hnews : Hid (∀ j u, [Value.int .i32 r][j]? = some u → (w.alloc (.cells #[.int .i32 r] 21)).cell? ((⟨w.heap.size, 0, none⟩ : Addr).add j) = some u) := by
    intro j u hj
    cases j with
    | zero => cases hj; rw [show (⟨w.heap.size, 0, none⟩ : Addr).add 0 = ⟨w.heap.size, 0, none⟩ from rfl, World.cell?_alloc_new]; rfl
    | succ j => cases hj
  have hone : Hid (∀ u ∈ [Value.int .i32 r], u.oneCell' = true) := by
    intro u hu
    rcases List.mem_singleton.1 hu with rfl
    rfl
  go_enter Yba.func18, Yba.ntmps18
  go_wp2_with (at_builtin; go_loud (refine wpList_append_lies _ rfl (.tmp 8) (.tmp 10) 24 rfl B 21 i0 _ 1 4 Yba.underlying24 hi hz0 hs0 hb0 rfl (by decide) v xs.length xs rfl (hown.alloc _) ⟨w.heap.size, 0, none⟩ 1 1 [.int .i32 r] rfl rfl hnews.out hone.out (by decide) (by unfold maxLen; omega) (by omega) (by simp; omega) (w.heap.size + 1) (by simp) ?_; intro g cap w2 h1 h2 h3 h4; obtain ⟨k1, k2, k3⟩ := dropped_of HX.out.1 HX.out.2 hb hB h1 h2 h3; have k3' := hide k3; rw [hz] at k2; clear h1 h2 h3 k3 hc hown))
  go_end0
  exact ⟨rfl, k3'.out⟩

/-- The cells of the timeline that hold the spare rows: open, devices, cores, takers. -/
def pos (i : Nat) : Nat := if i = 0 then 29 else if i = 1 then 71 else if i = 2 then 96 else 53
theorem pos_inj : ∀ i j, i < 4 → j < 4 → i ≠ j → pos i ≠ pos j := by
  intro i j hi hj hne
  unfold pos
  (repeat' split) <;> omega
structure TS (TL B : Nat) (X : Nat → List Value) (w : World) : Prop where
  ex : ∃ vs : Nat → Value, (∀ i, i < 4 → w.cell? ⟨TL, pos i, none⟩ = some (vs i) ∧ w.ownsRow B 21 1 (vs i) (X i).length (X i)) ∧ ∀ i j, i < 4 → j < 4 → i ≠ j → Far (vs i).ownBlock (vs j).ownBlock
  fz : ∀ q, w.frozen? ⟨TL, q, none⟩ = false
  tl : TL < B
  hB : B ≤ w.heap.size
/-- All below B but the timeline's block is as it was, and of that all but the four cells. -/
structure Fra (TL B : Nat) (w w' : World) : Prop where
  os : w'.os = w.os
  tape : w'.tape = w.tape
  output : w'.output = w.output
  size : w.heap.size ≤ w'.heap.size
  block : ∀ k, k < B → k ≠ TL → w'.heap[k]? = w.heap[k]?
  cell : ∀ q, (∀ i, i < 4 → q ≠ pos i) → w'.cell? ⟨TL, q, none⟩ = w.cell? ⟨TL, q, none⟩
theorem Fra.refl (TL B : Nat) (w : World) : Fra TL B w w := ⟨rfl, rfl, rfl, Nat.le_refl _, fun _ _ _ => rfl, fun _ _ => rfl⟩
theorem Fra.trans {TL B : Nat} {a b c : World} (h : Fra TL B a b) (k : Fra TL B b c) : Fra TL B a c :=
  ⟨k.os.trans h.os, k.tape.trans h.tape, k.output.trans h.output, Nat.le_trans h.size k.size, fun i hi hn => (k.block i hi hn).trans (h.block i hi hn), fun q hq => (k.cell q hq).trans (h.cell q hq)⟩
theorem Dropped.fra {TL p B : Nat} {v : Value} {xs : List Value} {r : Int} {w w' : World} (h : Dropped TL p B v xs r w w') (hown : w.ownsRow B 21 1 v xs.length xs) (hB : B ≤ w.heap.size) (i : Nat) (hi : i < 4) (hp : p = pos i) : Fra TL B w w' :=
  ⟨h.os, h.tape, h.output, h.size, fun k hk hn => h.block k (by omega) hn (fun e => by have := (hown.lt k e.symm).1; omega), fun q hq => h.cell q (by rw [hp]; exact hq i hi)⟩
theorem TS.drop {TL B : Nat} {X : Nat → List Value} {w w' : World} {r : Int} (h : TS TL B X w) (i : Nat) (hi : i < 4) (hd : ∀ v, w.cell? ⟨TL, pos i, none⟩ = some v → w.ownsRow B 21 1 v (X i).length (X i) → Dropped TL (pos i) B v (X i) r w w') : TS TL B (upd X i (X i ++ [.int .i32 r])) w' ∧ Fra TL B w w' ∧ ∀ k, k < w.heap.size → k ≠ TL → (∀ A fz, w.heap[k]? ≠ some (.cells A 21 fz)) → w'.heap[k]? = w.heap[k]? := by
  obtain ⟨vs, hv, hf⟩ := h.ex
  have hD := hd (vs i) (hv i hi).1 (hv i hi).2
  have hB := h.hB
  have htl := h.tl
  obtain ⟨v', e1, e2, e3⟩ := hD.new
  refine ⟨⟨⟨upd vs i v', fun j hj => ?_, fun j k hj hk hjk => ?_⟩, fun q => (hD.fz q).trans (h.fz q), h.tl, Nat.le_trans hB hD.size⟩, hD.fra (hv i hi).2 hB i hi rfl, fun k hk hkt hA => hD.block k hk hkt (fun e => ?_)⟩
  · by_cases hji : j = i
    · subst hji
      rw [upd_eq, upd_eq]
      exact ⟨e1, by simpa using e2⟩
    · rw [upd_ne _ _ hji, upd_ne _ _ hji]
      refine ⟨(hD.cell _ (pos_inj j i hj hi hji)).trans (hv j hj).1, own_kept (hv j hj).2 fun k hk hBk hlk => hD.block k hlk (by omega) ?_⟩
      rw [← hk]
      rcases hf j i hj hi hji with h0 | h0
      · rw [h0] at hk; cases hk
      · exact h0
  · have hfar : ∀ m, m < 4 → m ≠ i → Far v'.ownBlock (vs m).ownBlock := by
      intro m hm hmi
      rcases e3 with e | ⟨g, e, hg⟩
      · rw [e]; exact hf i m hi hm (fun e => hmi e.symm)
      · rw [e]
        right
        intro hc
        have := (hv m hm).2.lt _ hc.symm
        omega
    by_cases hji : j = i
    · subst hji
      rw [upd_eq, upd_ne _ _ (fun e => hjk e.symm)]
      exact hfar k hk (fun e => hjk e.symm)
    · by_cases hki : k = i
      · subst hki
        rw [upd_eq, upd_ne _ _ hji]
        exact (hfar j hj hji).symm
      · rw [upd_ne _ _ hji, upd_ne _ _ hki]
        exact hf j k hj hk hjk
  · obtain ⟨_, h2⟩ := (hv i hi).2
    rcases h2 with ⟨h2, _⟩ | ⟨g, cap, cur, h2, _, hg, _⟩
    · rw [h2] at e; cases e
    · rw [h2] at e
      cases e
      exact hA _ _ hg
end Go.Proofs.Ybulkbfpk
