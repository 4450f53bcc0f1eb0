import Derived.Test.YbulkbfpkTa
namespace Go.Proofs.Ybulkbfpk
open Go.RowKit Go.Shelf
def TakeNode (Q : Dat) (D : Bk) (us : Nat → Bool) (ch : Nat → Int) (ps : List Nat) (t : Nat) (b : Nat) (w : World) (e : Ending) (w' : World) : Prop :=
  ∃ r, r = (fitsF us (Q.nf t) (Q.m t) && pendFit Q (markF us (Q.nf t) (Q.m t)) ps) ∧ e = .returned (.bool r) ∧ Frm D w w' ∧ ∃ ap', Dyn Q D (if r then markF us (Q.nf t) (Q.m t) else us) (if r then upd ch t b else upd (upd ch t b) t (-1)) ps ap' w'
set_option maxRecDepth 100000 in
set_option maxHeartbeats 2000000 in
theorem take_node (Q : Dat) (D : Bk) (us : Nat → Bool) (ch : Nat → Int) (ps : List Nat) (ap : Nat → Value) (w : World) (t b : Nat) (h : Dyn Q D us ch ps ap w) (ok : D.Ok Q.n) (ht : t < Q.n) (hc : Q.core t = false) (hb : Q.pk t = b) (hch : Chs Q ch ps) (hnd : ps.Nodup) (hnt : t ∉ ps) :
    Calls Yba.prog 15 #[.pointer (some ⟨D.CB, 0, none⟩), .int .i64 t, .int .i64 b] w (TakeNode Q D us ch ps t b w) := by
  have k1 := h.k1
  have k3 := h.k3
  have kj := h.stc.job t ht
  have kb := h.stc.bids t ht
  obtain ⟨hbl, kbid⟩ := h.stc.bid t ht b hb
  have kc := h.cho t ht
  have n1 := h.stc.n1
  have bl1 := h.stc.bl1 t ht
  have fCH := h.fz _ mem_S.2.2.1 t
  have hBw := h.hB
  have hcbB := ok.b2
  have hchB := ok.b3
  have hplB := ok.b1
  have halB := ok.b4
  have D1 : Dyn Q D us (upd ch t b) ps ap (w.setCell ⟨D.CH, t, none⟩ (.int .i64 b)).drew := (h.chs ok ht b).drew ok
  have F1 : Frm D w (w.setCell ⟨D.CH, t, none⟩ (.int .i64 b)).drew := Frm.of_but (S := D.S) ((But.refl _ _).setCell (p := ⟨D.CH, t, none⟩) mem_S.2.2.1 _).drew (fun k hk => .inl hk) hBw
  have HD := hide (show _ ∧ _ from ⟨D1, F1⟩)
  have hch1 : Chs Q (upd ch t b) ps := by
    intro s hs
    obtain ⟨c, c1, c2⟩ := hch s hs
    exact ⟨c, c1, by rw [upd_ne _ _ (fun e => hnt (by rw [← e]; exact hs))]; exact c2⟩
  have HCh := hide (show _ ∧ _ from ⟨hch1, hnd⟩)
  have kn1 := D1.stc.nod t ht
  rw [hc, if_neg (by decide)] at kn1
  have HC := hide (cores_any (D.jb t) 0 1 _ kn1)
  have hs1 := D1.hB
  clear D1 F1 hch1 hch kn1 h
  obtain ⟨wd, hwd⟩ : ∃ wd, wd = (w.setCell ⟨D.CH, t, none⟩ (.int .i64 b)).drew := ⟨_, rfl⟩
  go_enter Yba.func15, Yba.ntmps15
  go_upto_region 1 with fail
  go_region
  go_upto_region 6 with (go_at_call 19; refine HC.out.mono ?_; rintro e w2 ⟨rfl, h2⟩; rw [h2]; clear h2 w2)
  rw [← hwd] at HD HC hs1 ⊢
  clear hwd k1 k3 kj kb kbid kc fCH
  go_cut [9] (fun okv w3 => ∃ ap2, okv = .bool (fitsF us (Q.nf t) (Q.m t)) ∧ But [D.PL, D.AL] wd w3 ∧ Dyn Q D (if fitsF us (Q.nf t) (Q.m t) then markF us (Q.nf t) (Q.m t) else us) (upd ch t b) ps ap2 w3 ∧ (fitsF us (Q.nf t) (Q.m t) = true → Nds (ap2 t) (Q.m t) (Q.nf t) w3 ∧ ∀ c, (ap2 t).ownBlock = some c → D.B ≤ c))
  case first =>
    have hdk := HD.out.1
    have hj4 := ok.j4 t ht
    have hjS : ∀ c, c ∉ D.S → c ≠ D.PL ∧ c ≠ D.AL := fun c hc => ⟨fun e => hc (by rw [e]; exact mem_S.1), fun e => hc (by rw [e]; exact mem_S.2.2.2)⟩
    have hcbP : D.CB ≠ D.PL ∧ D.CB ≠ D.AL := ⟨ok.a1.symm, ok.a5⟩
    have hSt : ∀ w', But [D.PL, D.AL] wd w' → ∀ c, c < wd.heap.size → c ≠ D.PL ∧ c ≠ D.AL → w'.heap[c]? = wd.heap[c]? := fun w' hb c hc hn => hb.block c hc (by simp only [List.mem_cons, List.not_mem_nil, or_false]; omega)
    refine wp_region_noPanic ?_
    refine wp_region_held_drew (S := fun w' => ∀ c, c < wd.heap.size → c ≠ D.PL ∧ c ≠ D.AL → w'.heap[c]? = wd.heap[c]?) (by kernel_rfl) (fun _ _ _ => rfl) ?_
    intro hS
    have hpla := place_any D.PL us (Q.m t) (Q.nf t) (D.nb t) (Q.m t) (some ⟨D.jb t, 0, none⟩) wd.drew hdk.pol.drew (hdk.stc.m1 t ht) (hdk.stc.lt8 t ht) (fun i hi => hdk.stc.nds t ht i hi) (hjS _ hj4.2).1
    refine pla15 Q D t _ _ _ _ _ _ _ _ _ _ _ _ _ _ _ _ _ _ _ _ _ _ _ _ _ _ _ _ _ _ _ _ _ _ _ _ _ _ _ _ _ _ _ _ _ _ _ _ _ _ _ _ _ _ _ _ _ _ _ _ _ _ _ _ _ _ _ _ _ _ _ _ _ _ _ _ _ _ _ _ (fun _ _ _ _ h => h) ht ?hk hS (hpla.mono ?_)
    case hk =>
      intro w' hw'
      have hc : ∀ c o, c < wd.heap.size → c ≠ D.PL ∧ c ≠ D.AL → w'.cell? ⟨c, o, none⟩ = wd.cell? ⟨c, o, none⟩ := fun c o h1 h2 => World.cell?_of_block (a := ⟨c, o, none⟩) (hw' c h1 h2)
      exact ⟨(hc _ _ (by omega) hcbP).trans hdk.k0, (hc _ _ (by omega) hcbP).trans hdk.k4⟩
    rintro e' w' ⟨v, rfl, hbw, hyes, hno⟩
    have hbw' : But [D.PL] wd w' := (But.refl _ _).drew.trans hbw
    have hbw2 : But [D.PL, D.AL] wd w' := hbw'.sub (by intro k hk; simp only [List.mem_singleton] at hk; subst hk; simp)
    obtain ⟨va, vl, vc, ev⟩ : ∃ va vl vc, v = .slice va vl vc := by
      cases hfit : fitsF us (Q.nf t) (Q.m t) with
      | true =>
        rcases own_slice (hyes hfit).2 with ⟨c, e, _⟩ | ⟨g, c, e⟩
        · exact ⟨_, _, _, e⟩
        · exact ⟨_, _, _, e⟩
      | false => exact ⟨_, _, _, (hno hfit).2⟩
    subst ev
    have hpol : Pol D.PL (if fitsF us (Q.nf t) (Q.m t) then markF us (Q.nf t) (Q.m t) else us) w' := by
      cases hfit : fitsF us (Q.nf t) (Q.m t) with
      | true => simpa using (hyes hfit).1
      | false => simpa using (hno hfit).1
    have hd' := hdk.but ok hbw' hpol
    have hdp := hdk.put ok hbw' hpol ht va vl vc
    refine ⟨va, vl, vc, _, rfl, hSt w' hbw2, ?_, ?_, NoPanic.normal ?_⟩
    · intro j hj
      obtain ⟨a0, a1, a2, a3, a4, a5⟩ := hd'.al t ht
      refine ⟨?_, hd'.fz _ mem_S.2.2.2 _⟩
      match j, hj with
      | 0, _ => exact ⟨_, a0⟩
      | 1, _ => exact ⟨_, a1⟩
      | 2, _ => exact ⟨_, a2⟩
      | 3, _ => exact ⟨_, a3⟩
      | 4, _ => exact ⟨_, a4⟩
      | 5, _ => exact ⟨_, a5⟩
    · exact hSt _ (hbw2.setCells (by simp) _ _)
    · have hbfin : But [D.PL, D.AL] wd (w'.setCells D.AL (t * 6) [.slice va vl vc, .slice none 0 0, .slice none 0 0, .int .i64 0, .int .i64 0, .int .i64 0]) := hbw2.setCells (by simp) _ _
      have hAnew : fitsF us (Q.nf t) (Q.m t) = true → Nds (.slice va vl vc) (Q.m t) (Q.nf t) (w'.setCells D.AL (t * 6) [.slice va vl vc, .slice none 0 0, .slice none 0 0, .int .i64 0, .int .i64 0, .int .i64 0]) ∧ ∀ c, (Value.slice va vl vc).ownBlock = some c → D.B ≤ c := by
        intro hf
        have ho := (hyes hf).2
        have hge2 : ∀ c, (Value.slice va vl vc).ownBlock = some c → D.B ≤ c := fun c hc => by
          have h1 := (ho.lt c hc).1
          exact Nat.le_trans hs1 h1
        refine ⟨Nds.buts (w := w') (nds_own ho (hdk.stc.lt8 t ht) (hdk.stc.m1 t ht)) hge2 ((But.refl _ _).setCells (by simp) _ _) (S := [D.AL]) (by intro c hc; simp only [List.mem_singleton] at hc; omega), hge2⟩
      dsimp only
      go_wp2_with fail
      go_meet
      case rel => exact ⟨upd ap t (.slice va vl vc), rfl, hbfin, hdp, fun hf => by rw [upd_eq]; exact hAnew hf⟩
  case rest =>
    obtain ⟨ap2, rfl, hb2, hd2, hn2⟩ := hcut
    cases hf : fitsF us (Q.nf t) (Q.m t) with
    | false =>
      rw [hf] at hd2
      have hd3 : Dyn Q D us (upd ch t b) ps ap2 wc := by simpa using hd2
      have k3 := hd3.k3
      have kc := hd3.cho t ht
      have fCH := hd3.fz _ mem_S.2.2.1 t
      have H3 := hide (show _ ∧ _ from ⟨hb2, hd3⟩)
      clear hb2 hd2 hd3 hn2
      go_wp2_with fail
      go_ret
      refine ⟨false, by rw [hf]; rfl, rfl, HD.out.2.trans ((frm_of2 H3.out.1 hs1).trans ?_), ap2, ?_⟩
      · exact Frm.of_but (S := D.S) ((But.refl _ _).setCell (p := ⟨D.CH, t, none⟩) mem_S.2.2.1 _) (fun k hk => .inl hk) H3.out.2.hB
      · simpa using H3.out.2.chs ok ht (-1)
    | true =>
      rw [hf] at hd2
      have hd3 : Dyn Q D (markF us (Q.nf t) (Q.m t)) (upd ch t b) ps ap2 wc := by simpa using hd2
      have HPl := hide (placeP Q D (markF us (Q.nf t) (Q.m t)) (upd ch t b) ps ap2 wc hd3 ok HCh.out.1 HCh.out.2)
      have H3 := hide (show _ ∧ _ ∧ _ from ⟨hb2, hd3, hn2 hf⟩)
      have hB3 := hd3.hB
      clear hb2 hd2 hd3 hn2
      cases hp : pendFit Q (markF us (Q.nf t) (Q.m t)) ps with
      | true =>
        go_wp2_with (go_at_call 20; refine HPl.out.mono ?_; rintro e w4 ⟨ap', rfl, hb4, ho4, hd4, ha4⟩; rw [hp] at hd4 ⊢; have H4 := hide (show _ ∧ _ ∧ _ from ⟨hb4, hd4, ha4 hp⟩); clear hb4 ho4 hd4 ha4 HPl)
        have hd5 : Dyn Q D (markL Q (markF us (Q.nf t) (Q.m t)) ps) (upd ch t b) ps ap' w4 := by simpa using H4.out.2.1
        refine (relP Q D _ _ _ _ _ hd5 ok H4.out.2.2).mono ?_
        rintro e w5 ⟨rfl, d5, b5⟩
        rw [unm_mark hp] at d5
        have hB4 := hd5.hB
        have H5 := hide (show _ ∧ _ from ⟨d5, b5⟩)
        clear d5 b5 hd5
        go_wp2_with fail
        go_ret
        refine ⟨true, by rw [hf, hp]; rfl, rfl, HD.out.2.trans ((frm_of2 H3.out.1 hs1).trans ((frm_of2 H4.out.1 hB3).trans (frm_of1 H5.out.2 hB4))), ap', ?_⟩
        simpa using H5.out.1
      | false =>
        go_wp2_with (go_at_call 20; refine HPl.out.mono ?_; rintro e w4 ⟨ap', rfl, hb4, ho4, hd4, ha4⟩; rw [hp] at hd4 ⊢; have H4 := hide (show _ ∧ _ ∧ _ from ⟨hb4, hd4, ho4⟩); clear hb4 ho4 hd4 ha4 HPl)
        have hd5 : Dyn Q D (markF us (Q.nf t) (Q.m t)) (upd ch t b) ps ap' w4 := by simpa using H4.out.2.1
        have hapt : ap' t = ap2 t := H4.out.2.2 t hnt
        have hlt2 : ∀ c, c ∈ [D.PL, D.AL] → c < D.B := by intro c hc; simp only [List.mem_cons, List.not_mem_nil, or_false] at hc; omega
        have hNd : Nds (ap' t) (Q.m t) (Q.nf t) w4 := by rw [hapt]; exact H3.out.2.2.1.buts H3.out.2.2.2 H4.out.1 hlt2
        refine (drop_node Q D _ (upd ch t b) ps ap' _ t hd5 ok ht hc hNd (by rw [hapt]; exact H3.out.2.2.2)).mono ?_
        rintro e w5 ⟨rfl, d5, b5⟩
        rw [unmark_mark hf] at d5
        have H5 := hide (show _ ∧ _ from ⟨d5, b5⟩)
        clear d5 b5 hd5
        go_wp2_with fail
        go_ret
        refine ⟨false, by rw [hf, hp]; rfl, rfl, HD.out.2.trans ((frm_of2 H3.out.1 hs1).trans ((frm_of2 H4.out.1 hB3).trans H5.out.2)), ap', ?_⟩
        simpa using H5.out.1
end Go.Proofs.Ybulkbfpk
