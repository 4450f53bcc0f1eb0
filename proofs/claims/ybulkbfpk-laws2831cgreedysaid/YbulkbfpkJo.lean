import Derived.Test.YbulkbfpkJn
namespace Go.Proofs.Ybulkbfpk
open Go.RowKit Go.Shelf
def jobCs (cv : Int) : Array Value := #[.string { data := #[] }, .int .i64 0, .int .i64 cv, .int .i64 0, .int .i64 0, .int .i64 0, .int .i64 0, .int .i64 0, .string { data := #[] }, .bool false, .int .i64 0, .int .i64 0, .int .i64 0, .int .i64 0]
def jobRow (t JBt BB n : Nat) : List Value := [.int .i64 t, .pointer (some ⟨JBt, 0, none⟩), .int .i64 0, .int .i64 0, .slice (some ⟨BB, 0, none⟩) n n]
/-- The round's end: the job written, the pick, the picked nodes. -/
theorem Bj.fin {J : JIn} {G t BB M : Nat} {jb bb nb ndb : Nat → Nat} {wk wc wf : World} (Bw : Bj J G t jb bb nb wk) (Bk : Bb J t BB (J.bn t) ndb M wk) (hM : G + 3 ≤ M) (ht : t < J.n) (cv : Int) (hcv : (if J.core t = true then (0 : Int) else 1) = cv)
    (hw : wc = (wk.setCells G (t * 5) (jobRow t wk.heap.size BB (J.bn t))).alloc (.cells (jobCs cv) 104))
    (hb : But [G + 1, G + 2] wc wf) (hP : ∀ s, s ≠ t → wf.cell? ⟨G + 1, s, none⟩ = wc.cell? ⟨G + 1, s, none⟩) (hN : ∀ s, s ≠ t → wf.cell? ⟨G + 2, s, none⟩ = wc.cell? ⟨G + 2, s, none⟩) (hf : ∀ o, wf.frozen? ⟨G + 1, o, none⟩ = wc.frozen? ⟨G + 1, o, none⟩ ∧ wf.frozen? ⟨G + 2, o, none⟩ = wc.frozen? ⟨G + 2, o, none⟩)
    (hp : wf.cell? ⟨G + 1, t, none⟩ = some (.int .i64 (J.pk t))) (hn : wf.cell? ⟨G + 2, t, none⟩ = some (if J.picked t = true then .slice (some ⟨ndb (J.pk t).toNat, 0, none⟩) (J.dat.m t) (J.dat.m t) else .slice none 0 0)) :
    ∃ nbt, Bj J G (t + 1) (upd jb t wk.heap.size) (upd bb t BB) (upd nb t nbt) wf := by
  have hsz := Bw.sz
  have hl : (jobRow t wk.heap.size BB (J.bn t)).length = 5 := rfl
  have hszc : wc.heap.size = wk.heap.size + 1 := by rw [hw]; simp [size_setCells]
  have hszf := hb.size
  have hbk : But [G] wk wc := by rw [hw]; exact ((But.refl _ _).setCells (by simp) _ _).alloc _
  have hb3 : But [G, G + 1, G + 2] wk wf := (hbk.sub (by simp)).trans (hb.sub (by simp))
  have hin := World.cell?_setCells_in G (jobRow t wk.heap.size BB (J.bn t)) (t * 5) wk (fun j hj => by
    obtain ⟨u, hu⟩ := Bw.ex t ht j (by omega)
    rw [hu]; rfl)
  have hGc : ∀ o, wf.cell? ⟨G, o, none⟩ = (wk.setCells G (t * 5) (jobRow t wk.heap.size BB (J.bn t))).cell? ⟨G, o, none⟩ := fun o => by
    rw [World.cell?_of_block (a := ⟨G, o, none⟩) (hb.block G (by omega) (by simp)), hw]
    exact World.cell?_alloc_lt _ _ _ (by rw [size_setCells]; show G < _; omega)
  have hGs : ∀ s, s ≠ t → ∀ j, j < 5 → wf.cell? ⟨G, s * 5 + j, none⟩ = wk.cell? ⟨G, s * 5 + j, none⟩ := fun s hs j hj => (hGc _).trans (World.cell?_setCells_out G _ _ _ ⟨G, s * 5 + j, none⟩ (fun _ _ => by show s * 5 + j < _ ∨ _ ≤ s * 5 + j; omega))
  have hGt : ∀ j, j < 5 → ∃ u, wf.cell? ⟨G, t * 5 + j, none⟩ = some u := fun j hj => ⟨_, (hGc _).trans (hin j (by omega))⟩
  have h1 := (hGc _).trans (hin 1 (by omega))
  have h4 := (hGc _).trans (hin 4 (by omega))
  have hjb : wf.cell? ⟨wk.heap.size, 2, none⟩ = some (.int .i64 cv) := by
    have : wc.heap[wk.heap.size]? = some (.cells (jobCs cv) 104) := by
      have h := newBlock (wk.setCells G (t * 5) (jobRow t wk.heap.size BB (J.bn t))) (.cells (jobCs cv) 104)
      rw [size_setCells] at h
      rw [hw]; exact h
    exact hb.cell (by simp; omega) ((cells_at this 2).trans rfl)
  have hBB := Bk.bb
  obtain ⟨nbt, hnl, hnb⟩ : ∃ nbt, (G + 3 ≤ nbt ∧ nbt < wk.heap.size) ∧ ∀ b : Nat, J.pk t = b → nbt = ndb b := by
    cases hpk : J.picked t with
    | false => exact ⟨BB, ⟨by omega, by omega⟩, fun b hb => by have := JIn.pk_neg hpk; omega⟩
    | true =>
      obtain ⟨b, e1, e2⟩ := JIn.pk_nat hpk
      have h := Bk.ndl b e2
      refine ⟨ndb b, ⟨by omega, by omega⟩, fun c hc => ?_⟩
      have : c = b := by omega
      rw [this]
  have hm : ∀ b : Nat, J.pk t = b → J.picked t = true ∧ b < J.bn t ∧ J.dat.m t = J.rn t b ∧ ∀ i, J.dat.nf t i = J.nd t b i := fun b hb => by
    have hp1 : J.picked t = true := by
      cases hpk : J.picked t with
      | true => rfl
      | false => have := JIn.pk_neg hpk; omega
    obtain ⟨c, e1, e2⟩ := JIn.pk_nat hp1
    refine ⟨hp1, by omega, ?_, fun i => ?_⟩
    · show (if J.picked t = true then J.rn t (J.pk t).toNat else 0) = _
      rw [if_pos hp1, hb]; rfl
    · show J.nd t (J.pk t).toNat i = _
      rw [hb]; rfl
  have hk : ∀ b o u, G + 3 ≤ b → wk.cell? ⟨b, o, none⟩ = some u → wf.cell? ⟨b, o, none⟩ = some u := fun b o u h1 hu => hb3.cell (by simp only [List.mem_cons, List.not_mem_nil, or_false]; omega) hu
  refine ⟨nbt, Bw.keep ht hb3 hGs hGt (fun s hs => (hP s hs).trans (World.cell?_of_block (a := ⟨G + 1, s, none⟩) (hbk.block _ (by show G + 1 < _; omega) (by simp)))) (fun s hs => (hN s hs).trans (World.cell?_of_block (a := ⟨G + 2, s, none⟩) (hbk.block _ (by show G + 2 < _; omega) (by simp)))) (fun b o h1 h2 => ?_) wk.heap.size BB nbt h1 h4 (by rw [hcv]; exact hjb) (fun b hb => ?_) (fun i hi => ?_) hp ?_ ⟨⟨hsz, by omega⟩, ⟨by omega, by omega⟩, hnl.1, by omega⟩⟩
  · have hfk : wc.frozen? ⟨b, o, none⟩ = wk.frozen? ⟨b, o, none⟩ := by
      rw [hw]
      rw [World.frozen?_of_block (a := ⟨b, o, none⟩) (Below.heap_alloc _ _ _ (by rw [size_setCells]; show b < _; omega))]
      exact frz_setCells _ _ _ _ _
    rcases (by omega : b = G ∨ b = G + 1 ∨ b = G + 2) with e | e | e
    · subst e
      rw [hb.frozen (by simp) (by omega)]; exact hfk
    · subst e; exact (hf o).1.trans hfk
    · subst e; exact (hf o).2.trans hfk
  · obtain ⟨p1, p2, p3, p4⟩ := hm b hb
    rw [p3, hnb b hb]
    exact hk _ _ _ (by omega) (Bk.hd b p2)
  · cases hpk : J.picked t with
    | false =>
      have : J.dat.m t = 0 := by
        show (if J.picked t = true then J.rn t (J.pk t).toNat else 0) = _
        rw [if_neg (by simp [hpk])]
      omega
    | true =>
      obtain ⟨b, e1, e2⟩ := JIn.pk_nat hpk
      obtain ⟨p1, p2, p3, p4⟩ := hm b e1
      rw [hnb b e1, p4]
      exact hk _ _ _ (by have := Bk.ndl b e2; omega) (Bk.nd b e2 i (by omega))
  · rw [hn]
    by_cases hpk : J.picked t = true
    · rw [if_pos hpk, if_pos hpk]
      obtain ⟨b, e1, e2⟩ := JIn.pk_nat hpk
      rw [hnb b e1, e1]; rfl
    · rw [if_neg hpk, if_neg hpk]
/-- No pick. -/
theorem Bj.fin0 {J : JIn} {G t BB M : Nat} {jb bb nb ndb : Nat → Nat} {wk wc : World} (Bw : Bj J G t jb bb nb wk) (Bk : Bb J t BB (J.bn t) ndb M wk) (hM : G + 3 ≤ M) (ht : t < J.n) (cv : Int) (hcv : (if J.core t = true then (0 : Int) else 1) = cv)
    (hw : wc = (wk.setCells G (t * 5) (jobRow t wk.heap.size BB (J.bn t))).alloc (.cells (jobCs cv) 104)) (hpk : J.picked t = false) :
    ∃ nbt, Bj J G (t + 1) (upd jb t wk.heap.size) (upd bb t BB) (upd nb t nbt) (wc.setCell ⟨G + 1, t, none⟩ (.int .i64 (-1))) := by
  have hsz := Bw.sz
  have hbk : But [G] wk wc := by rw [hw]; exact ((But.refl _ _).setCells (by simp) _ _).alloc _
  have cp := hbk.cell (by simp) (Bw.pks t ht)
  have cn := hbk.cell (by simp) (Bw.pns t ht)
  rw [if_neg (by omega)] at cn
  refine Bw.fin Bk hM ht cv hcv hw ((But.refl _ _).setCell (by simp) _) (fun s hs => cell_set_ne (by omega)) (fun s hs => cell_set_ne (by omega)) (fun o => ⟨World.frozen?_setCell _ _ _ _, World.frozen?_setCell _ _ _ _⟩) ?_ ?_
  · rw [JIn.pk_neg hpk]; exact World.cell?_setCell_same _ _ _ cp
  · rw [if_neg (by simp [hpk]), cell_set_ne (by omega)]; exact cn
theorem Bj.fin1 {J : JIn} {G t BB M : Nat} {jb bb nb ndb : Nat → Nat} {wk wc : World} (Bw : Bj J G t jb bb nb wk) (Bk : Bb J t BB (J.bn t) ndb M wk) (hM : G + 3 ≤ M) (ht : t < J.n) (cv : Int) (hcv : (if J.core t = true then (0 : Int) else 1) = cv)
    (hw : wc = (wk.setCells G (t * 5) (jobRow t wk.heap.size BB (J.bn t))).alloc (.cells (jobCs cv) 104)) (hpk : J.picked t = true) (b : Nat) (hb : J.pk t = b) (z : Int) (hz : z = b) :
    ∃ nbt, Bj J G (t + 1) (upd jb t wk.heap.size) (upd bb t BB) (upd nb t nbt) (((wc.setCell ⟨G + 1, t, none⟩ (.int .i64 (-1))).setCell ⟨G + 1, t, none⟩ (.int .i64 z)).setCell ⟨G + 2, t, none⟩ (.slice (some ⟨ndb b, 0, none⟩) (J.rn t b) (J.rn t b))) := by
  have hsz := Bw.sz
  have hbk : But [G] wk wc := by rw [hw]; exact ((But.refl _ _).setCells (by simp) _ _).alloc _
  have cp := hbk.cell (by simp) (Bw.pks t ht)
  have cn := hbk.cell (by simp) (Bw.pns t ht)
  refine Bw.fin Bk hM ht cv hcv hw ((((But.refl _ _).setCell (by simp) _).setCell (by simp) _).setCell (by simp) _) (fun s hs => (cell_set_ne (by omega)).trans ((cell_set_ne (by omega)).trans (cell_set_ne (by omega)))) (fun s hs => (cell_set_ne (by omega)).trans ((cell_set_ne (by omega)).trans (cell_set_ne (by omega)))) (fun o => ⟨by simp only [World.frozen?_setCell], by simp only [World.frozen?_setCell]⟩) ?_ ?_
  · rw [cell_set_ne (by omega), hb, hz]; exact World.cell?_setCell_same _ _ _ (World.cell?_setCell_same _ _ _ cp)
  · rw [if_pos hpk]
    have hm : J.dat.m t = J.rn t b := by
      show (if J.picked t = true then J.rn t (J.pk t).toNat else 0) = _
      rw [if_pos hpk, hb]; rfl
    rw [hm, hb]
    exact World.cell?_setCell_same _ _ _ ((cell_set_ne (by omega)).trans ((cell_set_ne (by omega)).trans cn))
end Go.Proofs.Ybulkbfpk
