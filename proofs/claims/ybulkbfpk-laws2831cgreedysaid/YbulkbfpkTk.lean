import Derived.Test.YbulkbfpkPlP
namespace Go.Proofs.Ybulkbfpk
open Go.RowKit Go.Shelf
section
variable {Q : Dat} {D : Bk} {us : Nat → Bool} {ch ch' : Nat → Int} {ps : List Nat} {ap : Nat → Value} {w w' : World}
theorem Dyn.extch (h : Dyn Q D us ch ps ap w) (e : ∀ t, t < Q.n → ch t = ch' t) : Dyn Q D us ch' ps ap w :=
  ⟨h.pol, h.k0, h.k1, h.k3, h.k4, h.k5, fun t ht => by rw [← e t ht]; exact h.cho t ht, h.al, h.aps, h.fz, h.stc, h.hB, h.psl, h.psn⟩
/-- A store into chosen. -/
theorem Dyn.chs (h : Dyn Q D us ch ps ap w) (ok : D.Ok Q.n) {t : Nat} (ht : t < Q.n) (z : Int) : Dyn Q D us (upd ch t z) ps ap (w.setCell ⟨D.CH, t, none⟩ (.int .i64 z)) := by
  have hblk : ∀ b, b ≠ D.CH → (w.setCell ⟨D.CH, t, none⟩ (.int .i64 z)).heap[b]? = w.heap[b]? := fun b hne => Below.heap_setCell _ _ _ _ hne
  have hc : ∀ b o, b ≠ D.CH → (w.setCell ⟨D.CH, t, none⟩ (.int .i64 z)).cell? ⟨b, o, none⟩ = w.cell? ⟨b, o, none⟩ := fun b o hne => World.cell?_of_block (a := ⟨b, o, none⟩) (hblk b hne)
  have f : Frm D w (w.setCell ⟨D.CH, t, none⟩ (.int .i64 z)) := Frm.of_but (S := [D.CH]) ((But.refl _ _).setCell (by simp) _) (fun k hk => by simp only [List.mem_singleton] at hk; subst hk; exact .inl mem_S.2.2.1) h.hB
  refine ⟨h.pol.keep (hblk _ ok.a2), (hc _ _ ok.a4).trans h.k0, (hc _ _ ok.a4).trans h.k1, (hc _ _ ok.a4).trans h.k3, (hc _ _ ok.a4).trans h.k4, ?_, fun s hs => ?_, fun s hs => ?_, h.aps, fun b hb o => (World.frozen?_setCell _ _ _ _).trans (h.fz b hb o), h.stc.frm ok f, by simpa [World.setCell] using h.hB, h.psl, h.psn⟩
  · obtain ⟨v, e1, e2⟩ := h.k5
    exact ⟨v, (hc _ _ ok.a4).trans e1, own_kept e2 fun k _ hk _ => hblk k (by have := ok.b3; omega)⟩
  · by_cases e : s = t
    · subst e; rw [upd_eq]; exact World.cell?_setCell_same _ _ _ (h.cho s hs)
    · rw [upd_ne _ _ e, cell_set_ne (by omega)]; exact h.cho s hs
  · have := h.al s hs
    rw [hc _ _ ok.a6.symm, hc _ _ ok.a6.symm, hc _ _ ok.a6.symm, hc _ _ ok.a6.symm, hc _ _ ok.a6.symm, hc _ _ ok.a6.symm]
    exact this
/-- A store into the combination's 'pending', behind a growth of its row. -/
theorem Dyn.pend (h : Dyn Q D us ch ps ap w) (ok : D.Ok Q.n) {g : Option Nat} (hg : w.grownBy w' g) (hgB : ∀ k, g = some k → D.B ≤ k) {ps' : List Nat} {v' : Value} (ho : w'.ownsRow D.B 3 1 v' ps'.length (psV ps')) (hl : ∀ t, t ∈ ps' → t < Q.n) (hn : ps'.length ≤ 1024) : Dyn Q D us ch ps' ap (w'.setCell ⟨D.CB, 5, none⟩ v') := by
  have hB := h.hB
  have hblk0 : ∀ b, b < D.B → w'.heap[b]? = w.heap[b]? := fun b hb => hg.block b (by omega) (fun e => by have := hgB b e.symm; omega)
  have hblk : ∀ b, b < D.B → b ≠ D.CB → (w'.setCell ⟨D.CB, 5, none⟩ v').heap[b]? = w.heap[b]? := fun b hb hne => (Below.heap_setCell _ _ _ _ hne).trans (hblk0 b hb)
  have hc : ∀ b o, b < D.B → b ≠ D.CB → (w'.setCell ⟨D.CB, 5, none⟩ v').cell? ⟨b, o, none⟩ = w.cell? ⟨b, o, none⟩ := fun b o hb hne => World.cell?_of_block (a := ⟨b, o, none⟩) (hblk b hb hne)
  have hcb : ∀ o, w'.cell? ⟨D.CB, o, none⟩ = w.cell? ⟨D.CB, o, none⟩ := fun o => World.cell?_of_block (a := ⟨D.CB, o, none⟩) (hblk0 _ ok.b2)
  have hcs : ∀ o, o ≠ 5 → (w'.setCell ⟨D.CB, 5, none⟩ v').cell? ⟨D.CB, o, none⟩ = w.cell? ⟨D.CB, o, none⟩ := fun o ho => (cell_set_ne (by omega)).trans (hcb o)
  have hsz : (w'.setCell ⟨D.CB, 5, none⟩ v').heap.size = w'.heap.size := by simp [World.setCell]
  have f : Frm D w (w'.setCell ⟨D.CB, 5, none⟩ v') := ⟨hg.os, hg.tape, hg.output, by rw [hsz]; exact hg.size, fun k hk hn => hblk k hk (fun e => hn (by rw [e]; exact mem_S.2.1))⟩
  refine ⟨h.pol.keep (hblk _ ok.b1 ok.a1), (hcs 0 (by decide)).trans h.k0, (hcs 1 (by decide)).trans h.k1, (hcs 3 (by decide)).trans h.k3, (hcs 4 (by decide)).trans h.k4, ?_, fun s hs => (hc _ _ ok.b3 ok.a4.symm).trans (h.cho s hs), fun s hs => ?_, h.aps, fun b hb o => ?_, h.stc.frm ok f, by rw [hsz]; exact Nat.le_trans hB hg.size, hl, hn⟩
  · obtain ⟨v, e1, _⟩ := h.k5
    exact ⟨v', World.cell?_setCell_same _ _ _ ((hcb 5).trans e1), ownsRow_setCell_below ho (by exact ok.b2) _⟩
  · have := h.al s hs
    rw [hc _ _ ok.b4 ok.a5.symm, hc _ _ ok.b4 ok.a5.symm, hc _ _ ok.b4 ok.a5.symm, hc _ _ ok.b4 ok.a5.symm, hc _ _ ok.b4 ok.a5.symm, hc _ _ ok.b4 ok.a5.symm]
    exact this
  · rw [World.frozen?_setCell]
    have hbB : b < D.B := by
      have := ok.b1; have := ok.b2; have := ok.b3; have := ok.b4
      simp only [Bk.S, List.mem_cons, List.not_mem_nil, or_false] at hb
      omega
    rw [World.frozen?_of_block (a := ⟨b, o, none⟩) (hblk0 b hbB)]
    exact h.fz b hb o
end
theorem own_pop {w : World} {B g cap n : Nat} {e : TypeId} {xs : List Value} {x : Value} (h : w.ownsRow B e 1 (.slice (some ⟨g, 0, none⟩) (n + 1) cap) (n + 1) (xs ++ [x])) (hl : xs.length = n) : w.ownsRow B e 1 (.slice (some ⟨g, 0, none⟩) n cap) n xs := by
  rcases h.2 with ⟨e1, _⟩ | ⟨g', cap', cur, e1, hB, hg, hle, hm, hs, ht⟩
  · cases e1
  · cases e1
    refine ⟨by omega, .inr ⟨g, cap, cur, rfl, hB, hg, by omega, hm, hs, ?_⟩⟩
    have := congrArg (List.take n) ht
    rw [List.take_take] at this
    rw [Nat.min_eq_left (by omega)] at this
    rw [Nat.mul_one, this, List.take_append_of_le_length (by omega), ← hl, List.take_length]
theorem psV_snoc (ps : List Nat) (t : Nat) : psV (ps ++ [t]) = psV ps ++ [.int .i64 (t : Int)] := by simp [psV]
theorem psV_len (ps : List Nat) : (psV ps).length = ps.length := by simp [psV]
set_option maxRecDepth 100000 in
set_option maxHeartbeats 2000000 in
theorem drop_core (Q : Dat) (D : Bk) (us : Nat → Bool) (ch : Nat → Int) (ps : List Nat) (ap : Nat → Value) (w : World) (t : Nat) (h : Dyn Q D us ch (ps ++ [t]) ap w) (ok : D.Ok Q.n) (ht : t < Q.n) (hc : Q.core t = true) :
    Calls Yba.prog 21 #[.pointer (some ⟨D.CB, 0, none⟩), .int .i64 t] w fun e w' => e = .returned (.tuple #[]) ∧ Dyn Q D us (upd ch t (-1)) ps ap w' ∧ Frm D w w' := by
  have k1 := h.k1
  have k3 := h.k3
  have kj := h.stc.job t ht
  have kn := h.stc.nod t ht
  have kc := h.cho t ht
  have n1 := h.stc.n1
  have fCH := h.fz _ mem_S.2.2.1 t
  have fCB := h.fz _ mem_S.2.1 5
  rw [hc, if_pos rfl] at kn
  obtain ⟨v, c5, own⟩ := h.k5
  have hpn := h.psn
  obtain ⟨g, cap, ev⟩ : ∃ g cap, v = .slice (some ⟨g, 0, none⟩) (ps.length + 1) cap := by
    rcases own_slice own with ⟨c, e, h0⟩ | ⟨g, c, e⟩
    · simp at h0
    · exact ⟨g, c, by rw [e]; simp⟩
  subst ev
  have own1 := own
  simp only [List.length_append, List.length_singleton, psV_snoc] at own1
  have hle : ps.length + 1 ≤ cap := by
    rcases own1.2 with ⟨e, _⟩ | ⟨g', cap', cur, e, _, _, hle, _⟩
    · cases e
    · cases e; exact hle
  have hps : ps.length + 1 ≤ 1024 := by simpa using hpn
  have own2 := own_pop own1 (psV_len ps)
  have hgr : w.grownBy w none := ⟨rfl, rfl, rfl, Nat.le_refl _, fun _ _ _ => rfl⟩
  have P1 := h.pend ok hgr (fun k e => by cases e) (ps' := ps) (v' := .slice (some ⟨g, 0, none⟩) ps.length cap) own2 (fun s hs => h.psl s (List.mem_append_left _ hs)) (by omega)
  have HP := hide P1
  have hne : D.CB ≠ D.CH := ok.a4
  have HC := hide (cores_any (D.jb t) 0 0 w kn)
  have hneS := mem_S (D := D)
  have hF : Frm D w ((w.setCell ⟨D.CB, 5, none⟩ (.slice (some ⟨g, 0, none⟩) ps.length cap)).drew.setCell ⟨D.CH, t, none⟩ (.int .i64 (-1))) := Frm.of_but (S := D.S) ((((But.refl _ _).setCell (p := ⟨D.CB, 5, none⟩) hneS.2.1 _).drew).setCell (p := ⟨D.CH, t, none⟩) hneS.2.2.1 _) (fun k hk => .inl hk) h.hB
  have HF := hide hF
  clear own own1 own2 P1 h hF kn
  go_enter Yba.func21, Yba.ntmps21
  go_wp2_with (go_at_call 19; refine HC.out.mono ?_; rintro e w' ⟨rfl, rfl⟩)
  go_region
  all_goals go_wp2_with fail
  all_goals go_end0
  all_goals exact ⟨rfl, (HP.out.drew ok).chs ok ht (-1), HF.out⟩
set_option maxRecDepth 100000 in
set_option maxHeartbeats 2000000 in
theorem drop_node (Q : Dat) (D : Bk) (us : Nat → Bool) (ch : Nat → Int) (ps : List Nat) (ap : Nat → Value) (w : World) (t : Nat) (h : Dyn Q D us ch ps ap w) (ok : D.Ok Q.n) (ht : t < Q.n) (hc : Q.core t = false) (hN : Nds (ap t) (Q.m t) (Q.nf t) w) (hNg : ∀ b, (ap t).ownBlock = some b → D.B ≤ b) :
    Calls Yba.prog 21 #[.pointer (some ⟨D.CB, 0, none⟩), .int .i64 t] w fun e w' => e = .returned (.tuple #[]) ∧ Dyn Q D (unmarkF us (Q.nf t) (Q.m t)) (upd ch t (-1)) ps ap w' ∧ Frm D w w' := by
  have k1 := h.k1
  have kj := h.stc.job t ht
  have kn := h.stc.nod t ht
  have n1 := h.stc.n1
  rw [hc, if_neg (by decide)] at kn
  have HC := hide (cores_any (D.jb t) 0 1 w kn)
  obtain ⟨la, ll, lc, hap⟩ := h.aps t ht
  have hNe : (ap t).ownBlock ≠ some D.PL := fun e => by have := hNg _ e; have := ok.b1; omega
  have hRel := release_any D.PL us (Q.m t) (Q.nf t) (ap t) (some ⟨D.jb t, 0, none⟩) w.drew h.pol.drew (hN.but hNe (But.refl _ _).drew) hNe
  rw [hap] at hRel
  have HRel := hide hRel
  have HD := hide h
  have hal := h.al t ht
  rw [hap] at hal
  have HA := hide hal
  have hBw := h.hB
  clear hRel h hN kn hal
  go_enter Yba.func21, Yba.ntmps21
  go_upto_region 3 with (go_at_call 19; refine HC.out.mono ?_; rintro e w2 ⟨rfl, h2⟩; rw [h2]; clear h2 w2)
  go_cut [4] (fun _ w3 => Dyn Q D (unmarkF us (Q.nf t) (Q.m t)) ch ps ap w3 ∧ But [D.PL] w w3)
  case first =>
    refine wp_region_noPanic ?_
    refine wp_region_held_drew (S := Kq D.PL w.heap.size w) (by kernel_rfl) (fun _ _ _ => rfl) ?_
    intro hS
    refine rel21 Q D t la ll lc _ _ _ _ _ _ _ _ _ _ _ _ _ _ _ _ _ _ _ _ _ _ _ _ _ _ _ _ _ _ _ _ _ _ _ _ _ _ _ _ _ _ _ _ _ _ _ _ _ _ (fun _ _ _ _ h => h) ht ?hk hS (HRel.out.mono ?_)
    case hk =>
      intro w' hw'
      have b2 := ok.b2
      have b4 := ok.b4
      have hA := ok.a3.symm
      have ha := HA.out
      exact ⟨(hw'.cell (by omega) ok.a1.symm).trans HD.out.k0, (hw'.cell (by omega) ok.a1.symm).trans HD.out.k4, (hw'.cell (by omega) hA).trans ha.1, (hw'.cell (by omega) hA).trans ha.2.1, (hw'.cell (by omega) hA).trans ha.2.2.1, (hw'.cell (by omega) hA).trans ha.2.2.2.1, (hw'.cell (by omega) hA).trans ha.2.2.2.2.1, (hw'.cell (by omega) hA).trans ha.2.2.2.2.2⟩
    rintro e' w' ⟨rfl, hp', hb'⟩
    have hb2 : But [D.PL] w w' := (But.refl _ _).drew.trans hb'
    refine ⟨rfl, Kq.of_but hb2 (Nat.le_refl _), NoPanic.normal ?_⟩
    dsimp only
    go_wp2_with fail
    go_meet
    case rel => exact ⟨HD.out.but ok hb2 hp', hb2⟩
  case rest =>
    obtain ⟨d3, b3⟩ := hcut
    have k3 := d3.k3
    have kc := d3.cho t ht
    have fCH := d3.fz _ mem_S.2.2.1 t
    have H3 := hide (show _ ∧ _ from ⟨d3, b3⟩)
    clear d3 b3
    go_wp2_with fail
    go_end0
    refine ⟨rfl, H3.out.1.chs ok ht (-1), Frm.of_but (S := D.S) ((H3.out.2.sub ?_).setCell (p := ⟨D.CH, t, none⟩) mem_S.2.2.1 _) (fun k hk => .inl hk) hBw⟩
    intro k hk
    simp only [List.mem_singleton] at hk
    subst hk
    exact mem_S.1
end Go.Proofs.Ybulkbfpk
