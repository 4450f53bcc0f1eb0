import Derived.Test.YbulkbfpkTk
namespace Go.Proofs.Ybulkbfpk
open Go.RowKit Go.Shelf
theorem one_news' (w : World) (v : Value) (t : TypeId) : ∀ j u, [v][j]? = some u → (w.alloc (.cells #[v] t)).cell? ((⟨w.heap.size, 0, none⟩ : Addr).add j) = some u := by
  intro j u hj
  cases j with
  | zero => cases hj; rw [show (⟨w.heap.size, 0, none⟩ : Addr).add 0 = ⟨w.heap.size, 0, none⟩ from rfl, World.cell?_alloc_new]; rfl
  | succ j => cases hj
theorem one_int' (k : IntKind) (z : Int) : ∀ u ∈ [Value.int k z], u.oneCell' = true := by
  intro u hu
  rcases List.mem_singleton.1 hu with rfl
  rfl
def TakeCore (Q : Dat) (D : Bk) (us : Nat → Bool) (ch : Nat → Int) (ps : List Nat) (t : Nat) (b : Nat) (w : World) (e : Ending) (w' : World) : Prop :=
  e = .returned (.bool (pendFit Q us (ps ++ [t]))) ∧ Frm D w w' ∧ ∃ ap', Dyn Q D us (if pendFit Q us (ps ++ [t]) then upd ch t b else upd (upd ch t b) t (-1)) (if pendFit Q us (ps ++ [t]) then ps ++ [t] else ps) ap' w'
theorem frm_of2 {D : Bk} {w w' : World} (h : But [D.PL, D.AL] w w') (hB : D.B ≤ w.heap.size) : Frm D w w' := Frm.of_but h (fun k hk => by
  simp only [List.mem_cons, List.not_mem_nil, or_false] at hk
  rcases hk with rfl | rfl
  · exact .inl mem_S.1
  · exact .inl mem_S.2.2.2) hB
theorem frm_of1 {D : Bk} {w w' : World} (h : But [D.PL] w w') (hB : D.B ≤ w.heap.size) : Frm D w w' := Frm.of_but h (fun k hk => by simp only [List.mem_singleton] at hk; subst hk; exact .inl mem_S.1) hB
theorem frm_pend {D : Bk} {w w' : World} {g : Option Nat} (hg : w.grownBy w' g) (hgB : ∀ k, g = some k → D.B ≤ k) (hB : D.B ≤ w.heap.size) {v : Value} : Frm D w (w'.setCell ⟨D.CB, 5, none⟩ v) := by
  refine ⟨hg.os, hg.tape, hg.output, by simpa [World.setCell] using hg.size, fun k hk hn => ?_⟩
  rw [Below.heap_setCell _ _ _ _ (fun e => hn (by simp only at e; rw [e]; exact mem_S.2.1))]
  exact hg.block k (by omega) (fun e => by have := hgB k e.symm; omega)
set_option maxRecDepth 100000 in
set_option maxHeartbeats 2000000 in
theorem take_core (Q : Dat) (D : Bk) (us : Nat → Bool) (ch : Nat → Int) (ps : List Nat) (ap : Nat → Value) (w : World) (t b : Nat) (h : Dyn Q D us ch ps ap w) (ok : D.Ok Q.n) (ht : t < Q.n) (hc : Q.core t = true) (hb : Q.pk t = b) (hch : Chs Q ch ps) (hnd : (ps ++ [t]).Nodup) (hpl : ps.length + 1 ≤ 1024) :
    Calls Yba.prog 15 #[.pointer (some ⟨D.CB, 0, none⟩), .int .i64 t, .int .i64 b] w (TakeCore Q D us ch ps t b w) := by
  obtain ⟨i3, hi3, hz3, hs3, hb3⟩ := info_of (t := 3) (z := .int .i64 0) (s := 1) (b := 8) (by kernel_rfl)
  have k1 := h.k1
  have k3 := h.k3
  have kj := h.stc.job t ht
  have kb := h.stc.bids t ht
  obtain ⟨hbl, kbid⟩ := h.stc.bid t ht b hb
  have kn := h.stc.nod t ht
  have kc := h.cho t ht
  have n1 := h.stc.n1
  have bl1 := h.stc.bl1 t ht
  have fCH := h.fz _ mem_S.2.2.1 t
  have hBw := h.hB
  have hcbB := ok.b2
  have hchB := ok.b3
  have D1 : Dyn Q D us (upd ch t b) ps ap (w.setCell ⟨D.CH, t, none⟩ (.int .i64 b)).drew := (h.chs ok ht b).drew ok
  have F1 : Frm D w (w.setCell ⟨D.CH, t, none⟩ (.int .i64 b)).drew := Frm.of_but (S := D.S) ((But.refl _ _).setCell (p := ⟨D.CH, t, none⟩) mem_S.2.2.1 _).drew (fun k hk => .inl hk) hBw
  have HD := hide (show _ ∧ _ from ⟨D1, F1⟩)
  have hnt : t ∉ ps := fun e => by
    have := List.nodup_append.1 hnd
    exact (this.2.2 t e t (by simp)) rfl
  have hch1 : Chs Q (upd ch t b) (ps ++ [t]) := by
    intro s hs
    rcases List.mem_append.1 hs with hs | hs
    · obtain ⟨c, c1, c2⟩ := hch s hs
      exact ⟨c, c1, by rw [upd_ne _ _ (fun e => hnt (by rw [← e]; exact hs))]; exact c2⟩
    · rcases List.mem_singleton.1 hs with rfl
      exact ⟨b, hb, upd_eq _ _ _⟩
  have HCh := hide (show _ ∧ _ from ⟨hch1, hnd⟩)
  have kn1 := D1.stc.nod t ht
  rw [hc, if_pos rfl] at kn1
  have HC := hide (cores_any (D.jb t) 0 0 _ kn1)
  obtain ⟨v, c5, own⟩ := D1.k5
  have fCB := D1.fz _ mem_S.2.1 5
  have hs1 := D1.hB
  have HO := hide own
  clear D1 F1 hch1 hch own kn kn1 h
  obtain ⟨wd, hwd⟩ : ∃ wd, wd = (w.setCell ⟨D.CH, t, none⟩ (.int .i64 b)).drew := ⟨_, rfl⟩
  go_enter Yba.func15, Yba.ntmps15
  go_upto_region 1 with fail
  go_region
  go_upto_region 4 with (go_at_call 19; refine HC.out.mono ?_; rintro e w2 ⟨rfl, h2⟩; rw [h2]; clear h2 w2)
  rw [← hwd] at HD HC c5 HO fCB hs1 ⊢
  clear hwd
  go_cut [7] (fun _ w3 => Dyn Q D us (upd ch t b) (ps ++ [t]) ap w3 ∧ Frm D w w3)
  case first =>
    go_wp2_with (at_builtin; go_loud (refine wpList_append_lies _ rfl (.tmp 43) (.tmp 45) 23 rfl D.B 3 i3 _ 1 8 Yba.underlying23 hi3 hz3 hs3 hb3 rfl (by decide) v ps.length (psV ps) rfl (HO.out.alloc _) ⟨wd.heap.size, 0, none⟩ 1 1 [.int .i64 t] rfl rfl (one_news' wd (.int .i64 t) 3) (one_int' _ _) (by decide) (by unfold maxLen; omega) (by omega) (by simp; omega) (wd.heap.size + 1) (by simp) ?_; intro g cap w2 h1 h2 h3 h4; have hb5 : w2.heap[D.CB]? = wd.heap[D.CB]? := (h2.block D.CB (by simp; omega) (fun e => by have := (HO.out.lt _ e.symm).1; omega)).trans (Below.heap_alloc _ _ _ (by omega)); have k5 := (World.cell?_of_block (a := ⟨D.CB, 5, none⟩) hb5).trans c5; have z5 := (World.frozen?_of_block (a := ⟨D.CB, 5, none⟩) hb5).trans fCB; have H3 := hide (show _ ∧ _ from ⟨h1, h2⟩); clear h1 h2 h3 h4 hb5))
    go_meet
    case rel =>
      have hg2 : wd.grownBy w2 v.ownBlock := (World.grownBy_alloc wd _ _).trans H3.out.2
      refine ⟨HD.out.1.pend ok hg2 (fun k e => (HO.out.lt k e).1) (by simpa [psV_snoc] using H3.out.1) ?_ (by simpa using hpl), HD.out.2.trans ?_⟩
      · intro s hs
        rcases List.mem_append.1 hs with hs | hs
        · exact HD.out.1.psl s hs
        · rcases List.mem_singleton.1 hs with rfl
          exact ht
      · exact frm_pend hg2 (fun k e => (HO.out.lt k e).1) hs1
  case rest =>
    obtain ⟨d3, f3⟩ := hcut
    have HPl := hide (placeP Q D us (upd ch t b) (ps ++ [t]) ap wc d3 ok HCh.out.1 HCh.out.2)
    have H3 := hide (show _ ∧ _ from ⟨d3, f3⟩)
    clear d3 f3 c5 fCB k1 k3 kj kb kbid kc fCH hi3 hz3 hs3 hb3
    go_upto_region 10 with fail
    have hB3 := H3.out.1.hB
    cases hp : pendFit Q us (ps ++ [t]) with
    | true =>
      go_wp2_with (go_at_call 20; refine HPl.out.mono ?_; rintro e w4 ⟨ap', rfl, hb4, ho4, hd4, ha4⟩; rw [hp] at hd4 ⊢; have H4 := hide (show _ ∧ _ ∧ _ from ⟨hb4, hd4, ha4 hp⟩); clear hb4 ho4 hd4 ha4 HPl)
      have hd5 : Dyn Q D (markL Q us (ps ++ [t])) (upd ch t b) (ps ++ [t]) ap' w4 := by simpa using H4.out.2.1
      refine (relP Q D _ _ _ _ _ hd5 ok H4.out.2.2).mono ?_
      rintro e w5 ⟨rfl, d5, b5⟩
      rw [unm_mark hp] at d5
      have hB4 := hd5.hB
      have H5 := hide (show _ ∧ _ from ⟨d5, b5⟩)
      clear d5 b5 hd5
      go_wp2_with fail
      go_ret
      refine ⟨by rw [hp]; rfl, H3.out.2.trans ((frm_of2 H4.out.1 hB3).trans (frm_of1 H5.out.2 hB4)), ap', ?_⟩
      rw [if_pos hp, if_pos hp]
      exact H5.out.1
    | false =>
      go_wp2_with (go_at_call 20; refine HPl.out.mono ?_; rintro e w4 ⟨ap', rfl, hb4, ho4, hd4, ha4⟩; rw [hp] at hd4 ⊢; have H4 := hide (show _ ∧ _ from ⟨hb4, hd4⟩); clear hb4 ho4 hd4 ha4 HPl)
      have hd5 := H4.out.2
      rw [if_neg (by decide)] at hd5
      refine (drop_core Q D us (upd ch t b) ps ap' _ t hd5 ok ht hc).mono ?_
      rintro e w5 ⟨rfl, d5, b5⟩
      have H5 := hide (show _ ∧ _ from ⟨d5, b5⟩)
      clear d5 b5 hd5
      go_wp2_with fail
      go_ret
      refine ⟨by rw [hp]; rfl, H3.out.2.trans ((frm_of2 H4.out.1 hB3).trans H5.out.2), ap', ?_⟩
      rw [if_neg (by rw [hp]; decide), if_neg (by rw [hp]; decide)]
      exact H5.out.1
end Go.Proofs.Ybulkbfpk
