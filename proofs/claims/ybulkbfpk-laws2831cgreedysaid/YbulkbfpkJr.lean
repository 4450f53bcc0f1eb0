import Derived.Test.YbulkbfpkJq
namespace Go.Proofs.Ybulkbfpk
open Go.RowKit Go.Shelf
theorem clone_int (b m c : Nat) (f : Nat → Int) (w : World) (hm : m ≤ 1024) (h : ∀ i, i < m → w.cell? ⟨b, i, none⟩ = some (.int .i64 (f i))) :
    Calls Yba.prog 9 #[.slice (some ⟨b, 0, none⟩) m c] w fun e w' => ∃ v, e = .returned v ∧ w'.ownsRow w.heap.size 3 1 v m (rowI m f) ∧ Below w.heap.size w w' := by
  have := clone_vals ⟨b, 0, none⟩ c (rowI m f) w (by rw [rowI_len]; exact hm) (rowI_one m f) (fun i u hu => by
    have hi : i < m := by
      rcases Nat.lt_or_ge i m with h | h
      · exact h
      · rw [List.getElem?_eq_none (by rw [rowI_len]; omega)] at hu; cases hu
    rw [rowI_at m f i hi] at hu
    cases hu
    rw [show (⟨b, 0, none⟩ : Addr).add i = ⟨b, i, none⟩ by simp [Addr.add, eq_comm]]
    exact h i hi)
  rw [rowI_len] at this
  exact this
/-- chosen: k of them -1. -/
structure Ch0 (J : JIn) (w9 : World) (k : Nat) (wx : World) : Prop where
  bel : Below w9.heap.size w9 wx
  cel : ∀ s, s < J.n → wx.cell? ⟨w9.heap.size, s, none⟩ = some (.int .i64 (if s < k then -1 else 0))
  fz : ∀ o, wx.frozen? ⟨w9.heap.size, o, none⟩ = false
  sz : wx.heap.size = w9.heap.size + 1
theorem Ch0.put {J : JIn} {w9 wx : World} {k : Nat} (h : Ch0 J w9 k wx) (hk : k < J.n) : Ch0 J w9 (k + 1) (wx.setCell ⟨w9.heap.size, k, none⟩ (.int .i64 (-1))) := by
  refine ⟨h.bel.setCell (p := ⟨w9.heap.size, k, none⟩) (Nat.le_refl _) _, fun s hs => ?_, fun o => (World.frozen?_setCell _ _ _ _).trans (h.fz o), by simpa [World.setCell] using h.sz⟩
  by_cases e : s = k
  · subst e
    rw [if_pos (by omega)]
    exact World.cell?_setCell_same _ _ _ (h.cel s hs)
  · rw [cell_set_ne (by omega), h.cel s hs]
    by_cases e2 : s < k
    · rw [if_pos e2, if_pos (by omega)]
    · rw [if_neg e2, if_neg (by omega)]
def polCs : Array Value := #[.nilIface, .bool false, .bool false, .bool false, .bool false, .bool false, .bool false, .bool false, .bool false, .int .i64 0]
structure Pl0 (J : JIn) (w9 wx : World) : Prop where
  bel : Below w9.heap.size w9 wx
  cel : ∀ s, s < J.n → wx.cell? ⟨w9.heap.size, s, none⟩ = some (.int .i64 (-1))
  fz : ∀ o, wx.frozen? ⟨w9.heap.size, o, none⟩ = false
  pol : wx.heap[w9.heap.size + 1]? = some (.cells polCs 111)
  sz : wx.heap.size = w9.heap.size + 2
theorem Ch0.pl {J : JIn} {w9 wx : World} (h : Ch0 J w9 J.n wx) : Pl0 J w9 (wx.alloc (.cells polCs 111)) := by
  have hs := h.sz
  refine ⟨h.bel.alloc (by omega) _, fun s hs' => ?_, fun o => ?_, ?_, by simp [hs]⟩
  · have := h.cel s hs'
    rw [if_pos hs'] at this
    exact (World.cell?_alloc_lt _ _ _ (lt_of_cell this)).trans this
  · rw [World.frozen?_of_block (a := ⟨w9.heap.size, o, none⟩) (Below.heap_alloc _ _ _ (by show w9.heap.size < _; omega))]
    exact h.fz o
  · rw [← hs]; exact newBlock _ _
def cmbCs (CH G n : Nat) : Array Value := #[.iface 108 (.pointer (some ⟨CH + 1, 0, none⟩)), .slice (some ⟨G, 0, none⟩) n n, .slice none 0 0, .slice (some ⟨CH, 0, none⟩) n n, .slice (some ⟨CH + 2, 0, none⟩) n n, .slice none 0 0, .slice none 0 0, .slice none 0 0, .slice none 0 0, .bool false]
theorem dB_ok {J : JIn} {G : Nat} {jb bb nb : Nat → Nat} {pcv : Value} {w9 : World} (h : C9 J G jb bb nb pcv w9) : (dB J G w9.heap.size jb bb nb).Ok J.n := by
  have hz := h.bj.sz
  have hS : ∀ k, k < w9.heap.size → k ∉ (dB J G w9.heap.size jb bb nb).S := fun k hk => by
    simp only [Bk.S, dB, List.mem_cons, List.not_mem_nil, or_false]; omega
  refine ⟨by simp only [dB]; omega, by simp only [dB]; omega, by simp only [dB]; omega, by simp only [dB]; omega, by simp only [dB]; omega, by simp only [dB]; omega, by simp only [dB]; omega, by simp only [dB]; omega, by simp only [dB]; omega, by simp only [dB]; omega, ⟨by simp only [dB]; omega, hS G (by omega)⟩, fun t ht => ?_, fun t ht => ?_, fun t ht => ?_⟩
  all_goals
    have hb := h.bj.blk t ht
    refine ⟨?_, hS _ ?_⟩
    · simp only [dB]; omega
    · simp only [dB]; omega
theorem dyn0 {J : JIn} {G : Nat} {jb bb nb : Nat → Nat} {pcv : Value} {w9 wx W : World} (h9 : C9 J G jb bb nb pcv w9) (hB : Bnd J) (P : Pl0 J w9 wx) (C : Array Value) (hC : ∀ k, k < J.n → C[k * 6]? = some (.slice none 0 0) ∧ C[k * 6 + 1]? = some (.slice none 0 0) ∧ C[k * 6 + 2]? = some (.slice none 0 0) ∧ C[k * 6 + 3]? = some (.int .i64 0) ∧ C[k * 6 + 4]? = some (.int .i64 0) ∧ C[k * 6 + 5]? = some (.int .i64 0))
    (hW : W = (wx.alloc (.cells C 44)).alloc (.cells (cmbCs w9.heap.size G J.n) 116)) :
    Below w9.heap.size w9 W ∧ Dyn J.dat (dB J G w9.heap.size jb bb nb) (gs J.dat 0).us (gs J.dat 0).ch (gs J.dat 0).ps (fun _ => .slice none 0 0) W := by
  have hs := P.sz
  have hbx : Below wx.heap.size wx W := by rw [hW]; exact ((Below.refl _ _).alloc (Nat.le_refl _) _).alloc (by simp) _
  have hb9 : Below w9.heap.size w9 W := P.bel.trans (hbx.mono P.bel.size)
  have hWs : W.heap.size = w9.heap.size + 4 := by rw [hW]; simp [hs]
  have hal : W.heap[w9.heap.size + 2]? = some (.cells C 44) := by
    rw [hW, Below.heap_alloc _ _ _ (by simp; omega), ← hs]; exact newBlock _ _
  have hcb : W.heap[w9.heap.size + 3]? = some (.cells (cmbCs w9.heap.size G J.n) 116) := by
    have h := newBlock (wx.alloc (.cells C 44)) (.cells (cmbCs w9.heap.size G J.n) 116)
    rw [show (wx.alloc (.cells C 44)).heap.size = w9.heap.size + 3 by simp [hs]] at h
    rw [hW]; exact h
  have hpl : W.heap[w9.heap.size + 1]? = some (.cells polCs 111) := (hbx.block _ (by omega)).trans P.pol
  have hch : ∀ s, s < J.n → W.cell? ⟨w9.heap.size, s, none⟩ = some (.int .i64 (-1)) := fun s hs => later hbx (P.cel s hs)
  have hfc : ∀ o, W.frozen? ⟨w9.heap.size, o, none⟩ = false := fun o => by
    rw [World.frozen?_of_block (a := ⟨w9.heap.size, o, none⟩) (hbx.block _ (by show w9.heap.size < _; omega))]
    exact P.fz o
  have bj := h9.bj.next hb9
  refine ⟨hb9, ⟨⟨fun x hx => ?_, ⟨0, cells_at hpl 9⟩, frozen_at hpl⟩, cells_at hcb 0, cells_at hcb 1, cells_at hcb 3, cells_at hcb 4, ⟨.slice none 0 0, cells_at hcb 5, rfl, .inl ⟨rfl, rfl⟩⟩, hch, fun t ht => ?_, fun t _ => ⟨none, 0, 0, rfl⟩, fun b hb o => ?_, ⟨bj.job, bj.bids, bj.nod, fun t ht b hb => ⟨?_, bj.bid t ht b hb⟩, bj.nds, fun t _ i _ => nf_lt J t i, fun t ht => hB.m1 ht, by have := hB.n1; show J.n ≤ 1024; omega, fun t ht => by have := hB.b1 t ht; show J.bn t ≤ 1024; omega⟩, by show w9.heap.size + 4 ≤ _; omega, (fun t ht => by cases ht), by show 0 ≤ 1024; omega⟩⟩
  · show W.cell? ⟨w9.heap.size + 1, 1 + x, none⟩ = some (.bool false)
    rw [cells_at hpl]
    match x, hx with
    | 0, _ | 1, _ | 2, _ | 3, _ | 4, _ | 5, _ | 6, _ | 7, _ => rfl
  · have h := hC t ht
    show W.cell? ⟨w9.heap.size + 2, t * 6, none⟩ = _ ∧ W.cell? ⟨w9.heap.size + 2, t * 6 + 1, none⟩ = _ ∧ W.cell? ⟨w9.heap.size + 2, t * 6 + 2, none⟩ = _ ∧ W.cell? ⟨w9.heap.size + 2, t * 6 + 3, none⟩ = _ ∧ W.cell? ⟨w9.heap.size + 2, t * 6 + 4, none⟩ = _ ∧ W.cell? ⟨w9.heap.size + 2, t * 6 + 5, none⟩ = _
    rw [cells_at hal, cells_at hal, cells_at hal, cells_at hal, cells_at hal, cells_at hal]
    exact h
  · simp only [Bk.S, dB, List.mem_cons, List.not_mem_nil, or_false] at hb
    rcases hb with rfl | rfl | rfl | rfl
    · exact frozen_at hpl o
    · exact frozen_at hcb o
    · exact hfc o
    · exact frozen_at hal o
  · obtain ⟨c, e1, e2⟩ := JIn.pk_nat (pk_picked (show J.pk t = b from hb))
    have hb' : J.pk t = b := hb
    show b < J.bn t
    omega
/-- Behind takeAll. -/
theorem c14_of {J : JIn} {G : Nat} {jb bb nb : Nat → Nat} {pcv : Value} {w w9 wx wt : World} {ap : Nat → Value} (h9 : C9 J G jb bb nb pcv w9) (hB : Bnd J) (hG : w.heap.size ≤ G) (lw : Below w.heap.size w w9) (l9 : Below w9.heap.size w9 wx) (hf : Frm (dB J G w9.heap.size jb bb nb) wx wt) (hd : Dyn J.dat (dB J G w9.heap.size jb bb nb) (gs J.dat J.n).us (gs J.dat J.n).ch (gs J.dat J.n).ps ap wt) : C14 J w w9 wt G jb bb nb pcv ap := by
  refine ⟨hB, hG, h9, lw, ⟨hf.os.trans l9.os, hf.tape.trans l9.tape, hf.output.trans l9.output, Nat.le_trans l9.size hf.size, fun k hk => ?_⟩, hd⟩
  refine (hf.block k (by simp only [dB]; omega) ?_).trans (l9.block k hk)
  simp only [Bk.S, dB, List.mem_cons, List.not_mem_nil, or_false]; omega
/-- The model's start. -/
theorem mst0 {J : JIn} {wt : World} {C : Array Value} (hC : ∀ k, k < J.n → C[k]? = some (.int .i64 0)) : Mst J (.slice none 0 0) ⟨fun _ => false, [], fun s => if s < 0 then -1 else 0⟩ wt ((wt.alloc (.cells (usA fun _ => false) 109)).alloc (.cells C 3)) := by
  have hn : ((wt.alloc (.cells (usA fun _ => false) 109)).alloc (.cells C 3)).heap[wt.heap.size + 1]? = some (.cells C 3) := by
    have h := newBlock (wt.alloc (.cells (usA fun _ => false) 109)) (.cells C 3)
    rwa [show (wt.alloc (.cells (usA fun _ => false) 109)).heap.size = wt.heap.size + 1 by simp] at h
  refine ⟨((Below.refl _ _).alloc (Nat.le_refl _) _).alloc (by simp) _, ?_, ⟨rfl, .inl ⟨rfl, rfl⟩⟩, fun s hs => ?_, frozen_at hn, by simp⟩
  · rw [Below.heap_alloc _ _ _ (by simp)]; exact newBlock _ _
  · rw [cells_at hn, hC s hs]; simp
theorem mst1 {J : JIn} {pv : Value} {wt w : World} (h : Mst J pv ⟨fun _ => false, [], fun s => if s < J.n then -1 else 0⟩ wt w) : Mst J pv (gs J.dat 0) wt w := h.extch (fun s hs => by show (if s < J.n then (-1 : Int) else 0) = -1; rw [if_pos hs])
end Go.Proofs.Ybulkbfpk
