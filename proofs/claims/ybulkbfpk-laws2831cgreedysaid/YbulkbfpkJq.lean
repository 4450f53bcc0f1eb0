import Derived.Test.YbulkbfpkJp
namespace Go.Proofs.Ybulkbfpk
open Go.RowKit Go.Shelf
theorem gs_ct {Q : Dat} {t : Nat} (h : ¬ Q.pk t < 0) (hc : Q.core t = true) (hp : pendFit Q (gs Q t).us ((gs Q t).ps ++ [t]) = true) : gs Q (t + 1) = ⟨(gs Q t).us, (gs Q t).ps ++ [t], upd (gs Q t).ch t (Q.pk t)⟩ := by
  show (gs Q t).step Q t = _
  unfold Gst.step
  rw [if_neg h, hc, if_pos rfl, hp, if_pos rfl]
theorem gs_cf {Q : Dat} {t : Nat} (h : ¬ Q.pk t < 0) (hc : Q.core t = true) (hp : pendFit Q (gs Q t).us ((gs Q t).ps ++ [t]) = false) : gs Q (t + 1) = gs Q t := by
  show (gs Q t).step Q t = _
  unfold Gst.step
  rw [if_neg h, hc, if_pos rfl, hp, if_neg (by decide)]
theorem gs_nt {Q : Dat} {t : Nat} (h : ¬ Q.pk t < 0) (hc : Q.core t = false) (hf : fitsF (gs Q t).us (Q.nf t) (Q.m t) = true) (hp : pendFit Q (markF (gs Q t).us (Q.nf t) (Q.m t)) (gs Q t).ps = true) : gs Q (t + 1) = ⟨markF (gs Q t).us (Q.nf t) (Q.m t), (gs Q t).ps, upd (gs Q t).ch t (Q.pk t)⟩ := by
  show (gs Q t).step Q t = _
  unfold Gst.step
  rw [if_neg h, hc, if_neg (by decide), hf, hp]; rfl
theorem gs_nf {Q : Dat} {t : Nat} (h : ¬ Q.pk t < 0) (hc : Q.core t = false) (hf : fitsF (gs Q t).us (Q.nf t) (Q.m t) = false ∨ pendFit Q (markF (gs Q t).us (Q.nf t) (Q.m t)) (gs Q t).ps = false) : gs Q (t + 1) = gs Q t := by
  show (gs Q t).step Q t = _
  unfold Gst.step
  rw [if_neg h, hc, if_neg (by decide)]
  rcases hf with hf | hf
  · rw [hf]; simp
  · rw [hf]; simp
/-- exp[s] = z. -/
theorem Mst.put {J : JIn} {pv : Value} {g : Gst} {wt w : World} (h : Mst J pv g wt w) {s : Nat} (hs : s < J.n) (z : Int) : Mst J pv ⟨g.us, g.ps, upd g.ch s z⟩ wt (w.setCell ⟨wt.heap.size + 1, s, none⟩ (.int .i64 z)) := by
  have hb : ∀ k, k ≠ wt.heap.size + 1 → (w.setCell ⟨wt.heap.size + 1, s, none⟩ (.int .i64 z)).heap[k]? = w.heap[k]? := fun k hk => Below.heap_setCell _ _ _ _ hk
  refine ⟨h.bel.setCell (p := ⟨wt.heap.size + 1, s, none⟩) (by show _ ≤ wt.heap.size + 1; omega) _, (hb _ (by omega)).trans h.occ, own_kept h.pnd (fun k _ hk _ => hb k (by omega)), fun q hq => ?_, fun o => (World.frozen?_setCell _ _ _ _).trans (h.exf o), by simpa [World.setCell] using h.sz⟩
  by_cases e : q = s
  · subst e
    show _ = some (Value.int .i64 (upd g.ch q z q))
    rw [upd_eq]
    exact World.cell?_setCell_same _ _ _ (h.exc q hq)
  · show _ = some (Value.int .i64 (upd g.ch s z q))
    rw [upd_ne _ _ e, cell_set_ne (by omega)]
    exact h.exc q hq
theorem Mst.extch {J : JIn} {pv : Value} {us : Nat → Bool} {ps : List Nat} {ch ch' : Nat → Int} {wt w : World} (h : Mst J pv ⟨us, ps, ch⟩ wt w) (he : ∀ s, s < J.n → ch s = ch' s) : Mst J pv ⟨us, ps, ch'⟩ wt w := ⟨h.bel, h.occ, h.pnd, fun s hs => (h.exc s hs).trans (by show some (Value.int .i64 (ch s)) = some (Value.int .i64 (ch' s)); rw [he s hs]), h.exf, h.sz⟩
/-- pend = cand. -/
theorem Mst.pend {J : JIn} {pv pv' : Value} {us : Nat → Bool} {ps ps' : List Nat} {ch : Nat → Int} {wt w : World} (h : Mst J pv ⟨us, ps, ch⟩ wt w) (ho : w.ownsRow (wt.heap.size + 2) 3 1 pv' ps'.length (psV ps')) : Mst J pv' ⟨us, ps', ch⟩ wt w := ⟨h.bel, h.occ, ho, h.exc, h.exf, h.sz⟩
/-- occ = o2. -/
theorem Mst.occs {J : JIn} {pv : Value} {us us' : Nat → Bool} {ps : List Nat} {ch : Nat → Int} {wt w w' : World} (h : Mst J pv ⟨us, ps, ch⟩ wt w) (hb : But [wt.heap.size] w w') (ho : w'.heap[wt.heap.size]? = some (.cells (usA us') 109)) : Mst J pv ⟨us', ps, ch⟩ wt w' := by
  have hz := h.sz
  have hs := hb.size
  have hk : ∀ k, k < w.heap.size → k ≠ wt.heap.size → w'.heap[k]? = w.heap[k]? := fun k h1 h2 => hb.block k h1 (by simpa using h2)
  refine ⟨⟨hb.os.trans h.bel.os, hb.tape.trans h.bel.tape, hb.output.trans h.bel.output, Nat.le_trans h.bel.size hs, fun k hk' => (hk k (by omega) (by omega)).trans (h.bel.block k hk')⟩, ho, own_kept h.pnd (fun k _ h1 h2 => hk k h2 (by omega)), fun s hs' => (World.cell?_of_block (a := ⟨wt.heap.size + 1, s, none⟩) (hk _ (by show wt.heap.size + 1 < _; omega) (by show wt.heap.size + 1 ≠ _; omega))).trans (h.exc s hs'), fun o => ?_, by omega⟩
  rw [World.frozen?_of_block (a := ⟨wt.heap.size + 1, o, none⟩) (hk _ (by show wt.heap.size + 1 < _; omega) (by show wt.heap.size + 1 ≠ _; omega))]
  exact h.exf o
def putA (A : Array Value) : Nat → List Value → Array Value
  | _, [] => A
  | o, v :: r => putA (A.setIfInBounds o v) (o + 1) r
theorem heap_putA (b : Nat) (t : TypeId) : ∀ (vs : List Value) (o : Nat) (w : World) (A : Array Value), w.heap[b]? = some (.cells A t) → (w.setCells b o vs).heap[b]? = some (.cells (putA A o vs) t)
  | [], _, _, _, h => h
  | _ :: r, o, _, _, h => heap_putA b t r (o + 1) _ _ (heap_setCell_same _ _ _ _ _ _ h)
theorem putA_us (us us' : Nat → Bool) : putA (usA us) 0 [.bool (us' 0), .bool (us' 1), .bool (us' 2), .bool (us' 3), .bool (us' 4), .bool (us' 5), .bool (us' 6), .bool (us' 7)] = usA us' := by
  simp only [putA, usA, List.setIfInBounds_toArray, List.set_cons_zero, List.set_cons_succ]
theorem occ_store {w : World} {b : Nat} {us us' : Nat → Bool} (h : w.heap[b]? = some (.cells (usA us) 109)) : (w.setCells b 0 [.bool (us' 0), .bool (us' 1), .bool (us' 2), .bool (us' 3), .bool (us' 4), .bool (us' 5), .bool (us' 6), .bool (us' 7)]).heap[b]? = some (.cells (usA us') 109) := by
  rw [heap_putA _ _ _ _ _ _ h, putA_us]
/-- What the model reads of the jobs. -/
theorem C14.pks {J : JIn} {w w9 wt wx : World} {G : Nat} {jb bb nb : Nat → Nat} {pcv : Value} {ap : Nat → Value} (C : C14 J w w9 wt G jb bb nb pcv ap) (h : Below wt.heap.size wt wx) {t : Nat} (ht : t < J.n) : wx.cell? ⟨G + 1, t, none⟩ = some (.int .i64 (J.pk t)) := by
  have h1 := C.c9.bj.pks t ht
  rw [if_pos ht] at h1
  exact later h (later C.l9 h1)
theorem C14.pns {J : JIn} {w w9 wt wx : World} {G : Nat} {jb bb nb : Nat → Nat} {pcv : Value} {ap : Nat → Value} (C : C14 J w w9 wt G jb bb nb pcv ap) (h : Below wt.heap.size wt wx) {t : Nat} (ht : t < J.n) (hp : J.picked t = true) : wx.cell? ⟨G + 2, t, none⟩ = some (.slice (some ⟨nb t, 0, none⟩) (J.dat.m t) (J.dat.m t)) := by
  have h1 := C.c9.bj.pns t ht
  rw [if_pos ⟨ht, hp⟩] at h1
  exact later h (later C.l9 h1)
theorem C14.nds {J : JIn} {w w9 wt wx : World} {G : Nat} {jb bb nb : Nat → Nat} {pcv : Value} {ap : Nat → Value} (C : C14 J w w9 wt G jb bb nb pcv ap) (h : Below wt.heap.size wt wx) {t : Nat} (ht : t < J.n) : ∀ i, i < J.dat.m t → wx.cell? ⟨nb t, i, none⟩ = some (.int .i64 (J.dat.nf t i)) := fun i hi => later h (later C.l9 (C.c9.bj.nds t ht i hi))
theorem Bnd.m1 {J : JIn} (h : Bnd J) {t : Nat} (ht : t < J.n) : J.dat.m t ≤ 1024 := by
  show (if J.picked t = true then J.rn t (J.pk t).toNat else 0) ≤ 1024
  by_cases hp : J.picked t = true
  · rw [if_pos hp]
    obtain ⟨b, e1, e2⟩ := JIn.pk_nat hp
    rw [e1]
    have := h.r1 t ht b e2
    show J.rn t b ≤ 1024
    omega
  · rw [if_neg hp]; omega
theorem nf_lt (J : JIn) (t i : Nat) : J.dat.nf t i < 8 := by
  show (J.xv t (J.pk t).toNat i % 8).toNat < 8
  omega
theorem pk_picked {J : JIn} {t b : Nat} (h : J.pk t = b) : J.picked t = true := by
  cases hp : J.picked t with
  | true => rfl
  | false => have := JIn.pk_neg hp; omega
theorem C14.pkn {J : JIn} {w w9 wt wx : World} {G : Nat} {jb bb nb : Nat → Nat} {pcv : Value} {ap : Nat → Value} (C : C14 J w w9 wt G jb bb nb pcv ap) (h : Below wt.heap.size wt wx) {ps : List Nat} (hps : ∀ s, s ∈ ps → s < J.n ∧ J.picked s = true) : Pkn J.dat nb (G + 2) ps wx := fun s hs => ⟨(hps s hs).1, C.hB.m1 (hps s hs).1, C.pns h (hps s hs).1 (hps s hs).2, C.nds h (hps s hs).1, fun i _ => nf_lt J s i⟩
theorem gs_ps {J : JIn} {t : Nat} (ht : t ≤ J.n) : ∀ s, s ∈ (gs J.dat t).ps → s < J.n ∧ J.picked s = true := fun s hs => by
  have g := gok J.dat t
  obtain ⟨b, b1, _⟩ := g.chs s hs
  exact ⟨by have := g.lt s hs; omega, pk_picked b1⟩
end Go.Proofs.Ybulkbfpk
