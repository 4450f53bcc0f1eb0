import Derived.Test.YbulkbfpkPl
import Derived.Deep.CutRange
namespace Go.Proofs.Ybulkbfpk
open Go.RowKit Go.Shelf
attribute [local go_sem] Oper.semAt_some
set_option linter.unusedSimpArgs false
/-- The choices of the pending jobs stand. -/
def Chs (Q : Dat) (ch : Nat → Int) (ps : List Nat) : Prop := ∀ t, t ∈ ps → ∃ b : Nat, Q.pk t = b ∧ ch t = b
def PlP (Q : Dat) (D : Bk) (us : Nat → Bool) (ch : Nat → Int) (ps : List Nat) (ap : Nat → Value) (w : World) (e : Ending) (w' : World) : Prop :=
  ∃ ap', e = .returned (.bool (pendFit Q us ps)) ∧ But [D.PL, D.AL] w w' ∧ (∀ t, t ∉ ps → ap' t = ap t) ∧ Dyn Q D (if pendFit Q us ps then markL Q us ps else us) ch ps ap' w' ∧ (pendFit Q us ps = true → Alc Q D ap' w' ps)
theorem nds_own {w : World} {B m : Nat} {v : Value} {f : Nat → Nat} (h : w.ownsRow B 3 1 v m (rowN m f)) (h8 : ∀ i, i < m → f i < 8) (hm : m ≤ 1024) : Nds v m f w := by
  refine ⟨h8, hm, ?_⟩
  rcases h.2 with ⟨e, h0⟩ | ⟨g, cap, cur, e, _⟩
  · exact .inl ⟨e, h0⟩
  · subst e
    exact .inr ⟨g, cap, rfl, fun i hi => (h.cellAt i (by omega)).trans (rowN_at m f i hi)⟩
theorem nodup_take {l : List Nat} (h : l.Nodup) {k : Nat} (hk : k < l.length) : l[k] ∉ l.take k := by
  intro hm
  obtain ⟨i, hi, e⟩ := List.mem_iff_getElem.1 hm
  rw [List.getElem_take] at e
  rw [List.length_take] at hi
  have := (List.getElem_inj h).1 e
  omega
/-- Between two rounds of placePending. -/
structure Mid (Q : Dat) (D : Bk) (us : Nat → Bool) (ch : Nat → Int) (ps : List Nat) (ap : Nat → Value) (w1 : World) (k : Nat) (ap' : Nat → Value) (wr : World) : Prop where
  dyn : Dyn Q D (markL Q us (ps.take k)) ch ps ap' wr
  fit : pendFit Q us (ps.take k) = true
  alc : Alc Q D ap' wr (ps.take k)
  but : But [D.PL, D.AL] w1 wr
  oth : ∀ t, t ∉ ps → ap' t = ap t
set_option maxRecDepth 100000 in
set_option maxHeartbeats 4000000 in
theorem placeP (Q : Dat) (D : Bk) (us : Nat → Bool) (ch : Nat → Int) (ps : List Nat) (ap : Nat → Value) (w : World) (h : Dyn Q D us ch ps ap w) (ok : D.Ok Q.n) (hch : Chs Q ch ps) (hnd : ps.Nodup) :
    Calls Yba.prog 20 #[.pointer (some ⟨D.CB, 0, none⟩)] w (PlP Q D us ch ps ap w) := by
  refine (callsIn_wide (n := 3)).1 ?_
  refine callsIn_of_wp_marks Yba.func20 rfl trivial ?_ rfl
  simp only [Yba.ntmps20, List.size_toArray, List.length_cons, List.length_nil, Nat.reduceAdd, Nat.reduceSub, Array.replicate_succ, Array.replicate_zero, List.push_toArray, List.append_toArray, List.nil_append, List.cons_append]
  refine wpIn_wide.2 ?_
  obtain ⟨v, c5, own⟩ := h.k5
  have hBw := h.hB
  have hcb := ok.b2
  have hpl := ok.b1
  have hal := ok.b4
  have hlt : D.CB < w.heap.size := by omega
  have HD := hide h
  have hpn := h.psn
  have hb0 : But [D.PL, D.AL] w (w.alloc (.cells #[.pointer (some ⟨D.CB, 0, none⟩)] 112)) := (But.refl _ _).alloc _
  have M0 : Mid Q D us ch ps ap (w.alloc (.cells #[.pointer (some ⟨D.CB, 0, none⟩)] 112)) 0 ap (w.alloc (.cells #[.pointer (some ⟨D.CB, 0, none⟩)] 112)) := ⟨by simpa [markL] using h.alloc ok _, by simp [pendFit], fun t ht => by simp at ht, But.refl _ _, fun _ _ => rfl⟩
  have x0 : (w.alloc (.cells #[.pointer (some ⟨D.CB, 0, none⟩)] 112)).cell? ⟨w.heap.size, 0, none⟩ = some (.pointer (some ⟨D.CB, 0, none⟩)) := by
    rw [cells_at (newBlock w (.cells #[.pointer (some ⟨D.CB, 0, none⟩)] 112))]; rfl
  rcases own_slice own with ⟨cc, ev, hv0⟩ | ⟨gg, cc, ev⟩
  · subst ev
    have hps : ps = [] := List.length_eq_zero_iff.1 hv0
    subst hps
    have HM := hide (show _ ∧ _ from ⟨M0, hb0⟩)
    clear own h M0 hb0
    go_wp2_with fail
    go_loopw [13] (fun iv wr => iv = .int .i64 0 ∧ wr = (w.alloc (.cells #[.pointer (some ⟨D.CB, 0, none⟩)] 112))) (fun iv _ => 0)
    case atStart => exact ⟨rfl, rfl⟩
    case round =>
      obtain ⟨rfl, rfl⟩ := hrel
      go_wp2_with fail
      refine ⟨_, results_tmp rfl _ _ _, ?_⟩
      exact ⟨ap, rfl, HM.out.2, fun _ _ => rfl, by simpa [pendFit, markL] using HM.out.1.dyn, fun _ t ht => by cases ht⟩
  · subst ev
    have hge : D.B ≤ gg := (own.lt gg rfl).1
    have hgl : gg < w.heap.size := (own.lt gg rfl).2
    have hcc : ps.length ≤ cc := by
      rcases own.2 with ⟨e, _⟩ | ⟨g, cap, cur, e, _, _, hle, _⟩
      · cases e
      · cases e; exact hle
    have hcell : ∀ k (hk : k < ps.length), w.cell? ⟨gg, k, none⟩ = some (.int .i64 (ps[k] : Int)) := fun k hk => by
      rw [own.cellAt k (by omega)]
      simp [psV, hk]
    have HCell := hide hcell
    have HM := hide (show _ ∧ _ from ⟨M0, hb0⟩)
    have HX0 := hide x0
    have HCh := hide hch
    obtain ⟨w1, hw1⟩ : ∃ w1, w1 = w.alloc (.cells #[.pointer (some ⟨D.CB, 0, none⟩)] 112) := ⟨_, rfl⟩
    have s1 : w1.heap.size = w.heap.size + 1 := by rw [hw1]; simp
    clear own h M0 hb0 hcell x0 hch
    go_wp2_with fail
    rw [← hw1] at HM HX0 ⊢
    have Hw1 := hide hw1
    clear hw1
    go_loopw [13] (fun iv wr => ∃ (k : Nat) (ap' : Nat → Value), k ≤ ps.length ∧ iv = .int .i64 k ∧ Mid Q D us ch ps ap w1 k ap' wr) (fun iv _ => ps.length - (intOf iv).toNat)
    case atStart => exact ⟨0, ap, Nat.zero_le _, rfl, HM.out.1⟩
    case round =>
      obtain ⟨k, ap', hk, rfl, Mk⟩ := hrel
      have HMk := hide Mk
      by_cases hkl : k < ps.length
      · have ck := Mk.but.cell (b := gg) (o := k) (by simp only [List.mem_cons, List.not_mem_nil, or_false]; omega) (HM.out.2.cell (b := gg) (o := k) (by simp only [List.mem_cons, List.not_mem_nil, or_false]; omega) (HCell.out k hkl))
        obtain ⟨t, ht⟩ : ∃ t, t = ps[k] := ⟨_, rfl⟩
        have hmem : t ∈ ps := by rw [ht]; exact List.getElem_mem hkl
        rw [← ht] at ck
        have Ht := hide ht
        clear ht Mk
        obtain ⟨b, hb1, hb2⟩ := HCh.out t hmem
        go_upto_region 5 with fail
        go_cut [3, 4, 5] from 14 to 68 (fun k3 t4 okv w3 => ∃ ap2, k3 = .int .i64 k ∧ t4 = .int .i64 t ∧ okv = .bool (fitsF (markL Q us (ps.take k)) (Q.nf t) (Q.m t)) ∧ But [D.PL, D.AL] w1 w3 ∧ (∀ s, s ∉ ps → ap2 s = ap s) ∧ Alc Q D ap2 w3 (ps.take k) ∧ Dyn Q D (if fitsF (markL Q us (ps.take k)) (Q.nf t) (Q.m t) then markF (markL Q us (ps.take k)) (Q.nf t) (Q.m t) else markL Q us (ps.take k)) ch ps ap2 w3 ∧ (fitsF (markL Q us (ps.take k)) (Q.nf t) (Q.m t) = true → Nds (ap2 t) (Q.m t) (Q.nf t) w3 ∧ ∀ c, (ap2 t).ownBlock = some c → D.B ≤ c))
        case first =>
          have hdk := HMk.out.dyn
          have htn := hdk.psl t hmem
          obtain ⟨hbl, hbid⟩ := hdk.stc.bid t htn b hb1
          have hws := HMk.out.but.size
          have hj1 := ok.j1
          have hj3 := ok.j3 t htn
          have hj4 := ok.j4 t htn
          have hjS : ∀ c, c ∉ D.S → c ≠ D.PL ∧ c ≠ D.AL := fun c hc => ⟨fun e => hc (by rw [e]; exact mem_S.1), fun e => hc (by rw [e]; exact mem_S.2.2.2)⟩
          have hcbP : D.CB ≠ D.PL ∧ D.CB ≠ D.AL := ⟨ok.a1.symm, ok.a5⟩
          have hchP : D.CH ≠ D.PL ∧ D.CH ≠ D.AL := ⟨ok.a2.symm, ok.a6⟩
          have hb3 := ok.b3
          have hSt : ∀ w', But [D.PL, D.AL] wr w' → ∀ c, c < w1.heap.size → c ≠ D.PL ∧ c ≠ D.AL → w'.heap[c]? = wr.heap[c]? := fun w' hb c hc hn => hb.block c (by omega) (by simp only [List.mem_cons, List.not_mem_nil, or_false]; omega)
          have xbr := HMk.out.but.cell (b := w.heap.size) (o := 0) (by simp only [List.mem_cons, List.not_mem_nil, or_false]; omega) HX0.out
          refine wp_region_noPanic ?_
          refine wp_region_held_drew (S := fun w' => ∀ c, c < w1.heap.size → c ≠ D.PL ∧ c ≠ D.AL → w'.heap[c]? = wr.heap[c]?) (by kernel_rfl) (fun _ _ _ => rfl) ?_
          intro hS
          have hpla := place_any D.PL (markL Q us (ps.take k)) (Q.m t) (Q.nf t) (D.nb t) (Q.m t) (some ⟨D.jb t, 0, none⟩) wr.drew hdk.pol.drew (hdk.stc.m1 t htn) (hdk.stc.lt8 t htn) (fun i hi => hdk.stc.nds t htn i hi) (hjS _ hj4.2).1
          refine pla20 Q D t w.heap.size b _ _ _ _ _ _ _ _ _ _ _ _ _ _ _ _ _ _ _ _ _ _ _ _ _ _ _ _ _ _ _ _ _ _ _ _ _ _ _ _ _ _ _ _ _ _ _ _ _ _ _ _ _ _ _ _ _ _ _ _ _ _ _ _ _ _ _ _ _ _ _ _ _ _ _ _ _ _ _ _ _ _ _ _ _ _ _ _ _ _ _ _ _ _ _ (fun _ _ _ _ h => h) htn hbl ?hk hS (hpla.mono ?_)
          case hk =>
            intro w' hw'
            have hc : ∀ c o, c < w1.heap.size → c ≠ D.PL ∧ c ≠ D.AL → w'.cell? ⟨c, o, none⟩ = wr.cell? ⟨c, o, none⟩ := fun c o h1 h2 => World.cell?_of_block (a := ⟨c, o, none⟩) (hw' c h1 h2)
            refine ⟨(hc _ _ (by omega) ⟨by omega, by omega⟩).trans xbr, (hc _ _ (by omega) hcbP).trans hdk.k0, (hc _ _ (by omega) hcbP).trans hdk.k1, (hc _ _ (by omega) hcbP).trans hdk.k3, (hc _ _ (by omega) hcbP).trans hdk.k4, (hc _ _ (by omega) (hjS _ hj1.2)).trans (hdk.stc.job t htn), (hc _ _ (by omega) (hjS _ hj1.2)).trans (hdk.stc.bids t htn), (hc _ _ (by omega) hchP).trans ?_, (hc _ _ (by omega) (hjS _ hj3.2)).trans hbid⟩
            rw [hdk.cho t htn, hb2]
          rintro e' w' ⟨v, rfl, hbw, hyes, hno⟩
          have hbw' : But [D.PL] wr w' := (But.refl _ _).drew.trans hbw
          have hbw2 : But [D.PL, D.AL] wr w' := hbw'.sub (by intro k hk; simp only [List.mem_singleton] at hk; subst hk; simp)
          obtain ⟨va, vl, vc, ev⟩ : ∃ va vl vc, v = .slice va vl vc := by
            cases hfit : fitsF (markL Q us (ps.take k)) (Q.nf t) (Q.m t) with
            | true =>
              rcases own_slice (hyes hfit).2 with ⟨c, e, _⟩ | ⟨g, c, e⟩
              · exact ⟨_, _, _, e⟩
              · exact ⟨_, _, _, e⟩
            | false => exact ⟨_, _, _, (hno hfit).2⟩
          subst ev
          have hpol : Pol D.PL (if fitsF (markL Q us (ps.take k)) (Q.nf t) (Q.m t) then markF (markL Q us (ps.take k)) (Q.nf t) (Q.m t) else markL Q us (ps.take k)) w' := by
            cases hfit : fitsF (markL Q us (ps.take k)) (Q.nf t) (Q.m t) with
            | true => simpa using (hyes hfit).1
            | false => simpa using (hno hfit).1
          have hd' := hdk.but ok hbw' hpol
          have hdp := hdk.put ok hbw' hpol htn va vl vc
          refine ⟨va, vl, vc, _, rfl, hSt w' hbw2, ?_, ?_, NoPanic.normal ?_⟩
          · intro j hj
            obtain ⟨a0, a1, a2, a3, a4, a5⟩ := hd'.al t htn
            refine ⟨?_, hd'.fz _ mem_S.2.2.2 _⟩
            match j, hj with
            | 0, _ => exact ⟨_, a0⟩
            | 1, _ => exact ⟨_, a1⟩
            | 2, _ => exact ⟨_, a2⟩
            | 3, _ => exact ⟨_, a3⟩
            | 4, _ => exact ⟨_, a4⟩
            | 5, _ => exact ⟨_, a5⟩
          · exact hSt _ (hbw2.setCells (by simp) _ _)
          · have hbfin : But [D.PL, D.AL] w1 (w'.setCells D.AL (t * 6) [.slice va vl vc, .slice none 0 0, .slice none 0 0, .int .i64 0, .int .i64 0, .int .i64 0]) := (HMk.out.but.trans hbw2).setCells (by simp) _ _
            have hlt2 : ∀ c, c ∈ [D.PL, D.AL] → c < D.B := by intro c hc; simp only [List.mem_cons, List.not_mem_nil, or_false] at hc; omega
            have hbr : But [D.PL, D.AL] wr (w'.setCells D.AL (t * 6) [.slice va vl vc, .slice none 0 0, .slice none 0 0, .int .i64 0, .int .i64 0, .int .i64 0]) := hbw2.setCells (by simp) _ _
            have hAnew : fitsF (markL Q us (ps.take k)) (Q.nf t) (Q.m t) = true → Nds (.slice va vl vc) (Q.m t) (Q.nf t) (w'.setCells D.AL (t * 6) [.slice va vl vc, .slice none 0 0, .slice none 0 0, .int .i64 0, .int .i64 0, .int .i64 0]) ∧ ∀ c, (Value.slice va vl vc).ownBlock = some c → D.B ≤ c := by
              intro hf
              have ho := (hyes hf).2
              have hge2 : ∀ c, (Value.slice va vl vc).ownBlock = some c → D.B ≤ c := fun c hc => by
                have h1 := (ho.lt c hc).1
                have h2 := hdk.hB
                exact Nat.le_trans h2 h1
              refine ⟨Nds.buts (w := w') (nds_own ho (hdk.stc.lt8 t htn) (hdk.stc.m1 t htn)) hge2 ((But.refl _ _).setCells (by simp) _ _) (S := [D.AL]) (by intro c hc; simp only [List.mem_singleton] at hc; omega), hge2⟩
            have hAll : Alc Q D (upd ap' t (.slice va vl vc)) (w'.setCells D.AL (t * 6) [.slice va vl vc, .slice none 0 0, .slice none 0 0, .int .i64 0, .int .i64 0, .int .i64 0]) (ps.take k) := by
              intro s hs
              by_cases e : s = t
              · exact absurd hs (by rw [e, Ht.out]; exact nodup_take hnd hkl)
              · rw [upd_ne _ _ e]
                obtain ⟨n1, n2⟩ := HMk.out.alc s hs
                exact ⟨n1.buts n2 hbr hlt2, n2⟩
            dsimp only
            go_wp2_with fail
            go_meet
            case rel =>
              refine ⟨upd ap' t (.slice va vl vc), rfl, rfl, rfl, hbfin, fun s hs => ?_, ?_, hdp, fun hf => ?_⟩
              · rw [upd_ne _ _ (fun e => hs (by rw [e]; exact hmem))]; exact HMk.out.oth s hs
              · exact hAll
              · rw [upd_eq]; exact hAnew hf
        case rest =>
          obtain ⟨ap2, rfl, rfl, rfl, hbW, hoth, halc, hdy, hnds⟩ := hcut
          have H2 := hide (show _ ∧ _ ∧ _ ∧ _ ∧ _ from ⟨hbW, hoth, halc, hdy, hnds⟩)
          clear hbW hoth halc hnds
          cases hfit : fitsF (markL Q us (ps.take k)) (Q.nf t) (Q.m t) with
          | true =>
            rw [hfit] at H2
            clear hdy
            go_wp2_with fail
            go_roundw
            case rel =>
              have htk : ps.take (k + 1) = ps.take k ++ [t] := by rw [List.take_succ_eq_append_getElem hkl, Ht.out]
              have hM : Mid Q D us ch ps ap w1 (k + 1) ap2 wc := by
                refine ⟨?_, ?_, ?_, H2.out.1, H2.out.2.1⟩
                · rw [htk, markL_snoc]; simpa using H2.out.2.2.2.1
                · rw [htk, pendFit_app, HMk.out.fit]; simp [pendFit, hfit]
                · intro s hs
                  rw [htk] at hs
                  rcases List.mem_append.1 hs with hs | hs
                  · exact H2.out.2.2.1 s hs
                  · rcases List.mem_singleton.1 hs with rfl
                    exact H2.out.2.2.2.2 rfl
              exact ⟨k + 1, ap2, by omega, by simp, hM⟩
            case measure => simp [intOf]; omega
          | false =>
            rw [hfit] at H2
            clear hdy
            have x5 := H2.out.1.cell (b := D.CB) (o := 5) (by simp only [List.mem_cons, List.not_mem_nil, or_false]; have := ok.a1; have := ok.a5; omega) (HM.out.2.cell (b := D.CB) (o := 5) (by simp only [List.mem_cons, List.not_mem_nil, or_false]; have := ok.a1; have := ok.a5; omega) c5)
            have xb := H2.out.1.cell (b := w.heap.size) (o := 0) (by simp only [List.mem_cons, List.not_mem_nil, or_false]; omega) HX0.out
            have hpl3 : k ≤ ps.length := by omega
            have hpl4 : k ≤ cc := by omega
            have hwc := H2.out.1.size
            go_wp2_with fail
            refine (bw_any _ _ _ _).mono ?_
            rintro e w2 ⟨rfl, rfl⟩
            go_wp2_with fail
            obtain ⟨w2, hw2⟩ : ∃ w2, w2 = wc.alloc (.cells #[.slice (some ⟨gg, 0, none⟩) k cc] 23) := ⟨_, rfl⟩
            rw [← hw2]
            have s2 : w2.heap.size = wc.heap.size + 1 := by rw [hw2]; simp
            have b2 : But [D.PL] wc w2 := by rw [hw2]; exact (But.refl _ _).alloc _
            have xs : w2.cell? ⟨wc.heap.size, 0, none⟩ = some (.slice (some ⟨gg, 0, none⟩) k cc) := by
              rw [hw2, cells_at (newBlock wc (.cells #[.slice (some ⟨gg, 0, none⟩) k cc] 23))]; rfl
            have D2 : Dyn Q D (markL Q us (ps.take k)) ch ps ap2 w2 := by
              have hd := H2.out.2.2.2.1
              rw [if_neg (by decide)] at hd
              exact hd.but ok b2 (hd.pol.keep (by rw [hw2, Below.heap_alloc _ _ _ hd.pol.lt]))
            have hbl2 : But [D.PL, D.AL] w1 w2 := H2.out.1.trans (b2.sub (by intro k hk; simp only [List.mem_singleton] at hk; subst hk; simp))
            have ha2 : Alc Q D ap2 w2 (ps.take k) := fun s hs => ⟨(H2.out.2.2.1 s hs).1.buts (H2.out.2.2.1 s hs).2 b2 (by intro c hc; simp only [List.mem_singleton] at hc; omega), (H2.out.2.2.1 s hs).2⟩
            have hlk : (ps.take k).length = k := by rw [List.length_take]; omega
            have hseq : SeqStopsK Fence.wide 2 Yba.prog 24 #[.pointer (some ⟨wc.heap.size, 0, none⟩)] (fun x : Elt (ps.take k) => #[Value.int .i64 (x.1.1 : Int), .int .i64 (x.1.2 : Int)]) (Kq D.PL w2.heap.size) (fun ys => ys = upto (eltAt (ps.take k)) (ps.take k).length) (fun _ => True) (ps.take k).length w2 := by
              refine bw_stops (fun x : Elt (ps.take k) => x.1) Fence.wide 2 trivial rfl (by decide) wc.heap.size w2.heap.size D.PL (ps.take k).length (.slice (some ⟨gg, 0, none⟩) k cc) (eltAt (ps.take k)) (by omega) w2 (Nat.le_refl _) (by omega) (by omega) xs ?_
              refine .inr ⟨gg, cc, by rw [hlk], by omega, by omega, fun i q hkq => ?_⟩
              rw [eltAt_val hkq]
              refine ⟨?_, rfl⟩
              have hq : q < ps.length := by omega
              have hc := hbl2.cell (b := gg) (o := q) (by simp only [List.mem_cons, List.not_mem_nil, or_false]; omega) (HM.out.2.cell (b := gg) (o := q) (by simp only [List.mem_cons, List.not_mem_nil, or_false]; omega) (HCell.out q hq))
              rw [hc]
              simp
            have xb2 := b2.cell (b := w.heap.size) (o := 0) (by simp only [List.mem_singleton]; omega) xb
            have HL := hide (show _ ∧ _ ∧ _ from ⟨D2, hbl2, ha2⟩)
            clear hw2 x5 xb xs hbl2 ha2
            refine (wpIn_wide (n := 3)).1 ?_
            refine wpIn_rangeFunc_ownF (F := Fence.wide) (n := 3) rfl (by decide) (gf := 24) (lb := #[.pointer (some ⟨wc.heap.size, 0, none⟩)]) rfl trivial (enters_of Yba.func24 (by kernel_rfl) rfl) hseq (fun h k => h.trans k) (fun W l o o' hl _ _ _ => Kq.putObj W l o' hl) (Below.refl _ _) (fun _ => rfl)
              (fun pre W => Pol D.PL (unmL Q (markL Q us (ps.take k)) (pre.map fun x => x.1.2)) W ∧ But [D.PL] w2 W) (fun _ _ _ => False) ?hI (fun _ _ _ _ _ hs _ _ => hs) ⟨D2.pol, But.refl _ _⟩
              (fun x => { tmps := #[.pointer (some ⟨D.CB, 0, none⟩), .pointer (some ⟨w.heap.size, 0, none⟩), u2, .int .i64 k, .int .i64 t, .bool false, undef, .int .i64 (x.1.2 : Int), .pointer (some ⟨D.CB, 0, none⟩), .pointer (some ⟨D.CB, 0, none⟩), .pointer (some ⟨D.CB, 5, none⟩), .slice (some ⟨gg, 0, none⟩) ps.length cc, .int .i64 ps.length, .int .i64 k, u14, u15, u16, u17, u18, u19, u20, u21, u22, u23, u24, u25, u26, u27, u28, u29, u30, u31, u32, u33, u34, u35, u36, u37, u38, u39, u40, u41, u42, u43, u44, u45, u46, u47, u48, u49, u50, u51, u52, u53, u54, u55, u56, u57, u58, u59, .bool false, .bool true, .pointer (some ⟨D.CB, 0, none⟩), .pointer (some ⟨D.CB, 0, none⟩), .pointer (some ⟨D.CB, 5, none⟩), .slice (some ⟨gg, 0, none⟩) ps.length cc, .int .i64 k, .slice (some ⟨gg, 0, none⟩) k cc, .func (.func 24) #[] #[.pointer (some ⟨wc.heap.size, 0, none⟩)], .int .i64 (x.1.1 : Int), .int .i64 (x.1.2 : Int), u71, u72, u73, u74, u75, u76, u77, u78, u79, u80, u81, u82, u83, u84, u85, u86, u87, u88, u89, u90, u91, u92, u93], defers := [] }) ?assign ?body ?done ?stop
            case hI =>
              intro s A B row hs hg hr
              have hpz := D2.pol.lt
              refine ⟨hs.1.keep (hg.block _ hs.1.lt (fun e => ?_)), hs.2.grown hg (fun k hk => .inr (hr k hk).1)⟩
              have := (hr _ e.symm).1
              omega
            case assign =>
              intro l x W K hK
              gi_wp2
              exact hK
            case body =>
              rintro l pre x W ⟨hp, hbW⟩ hlen
              have hx : x.1.2 ∈ ps.take k := by
                rcases x.2 with h | h
                · have h0 : (ps.take k).length = 0 := congrArg List.length h
                  omega
                · exact h
              obtain ⟨r, hr⟩ : ∃ r, r = x.1.2 := ⟨_, rfl⟩
              rw [← hr] at hx ⊢
              have Hr := hide hr
              clear hr
              have hDW := HL.out.1.but ok hbW hp
              have hrn := hDW.psl r (List.mem_of_mem_take hx)
              obtain ⟨la, ll, lc, hap⟩ := hDW.aps r hrn
              have hal' := hDW.al r hrn
              rw [hap] at hal'
              obtain ⟨hN, hNg⟩ := HL.out.2.2 r hx
              have hNe : (ap2 r).ownBlock ≠ some D.PL := fun e => by have := hNg _ e; omega
              have HK : Hid (∀ w', Kq D.PL w2.heap.size W w' → w'.cell? ⟨w.heap.size, 0, none⟩ = some (.pointer (some ⟨D.CB, 0, none⟩)) ∧ w'.cell? ⟨D.CB, 0, none⟩ = some (.iface 108 (.pointer (some ⟨D.PL, 0, none⟩))) ∧ w'.cell? ⟨D.CB, 1, none⟩ = some (.slice (some ⟨D.JB, 0, none⟩) Q.n Q.n) ∧ w'.cell? ⟨D.CB, 4, none⟩ = some (.slice (some ⟨D.AL, 0, none⟩) Q.n Q.n) ∧ w'.cell? ⟨D.JB, r * 5 + 1, none⟩ = some (.pointer (some ⟨D.jb r, 0, none⟩)) ∧
                  w'.cell? ⟨D.AL, r * 6, none⟩ = some (.slice la ll lc) ∧ w'.cell? ⟨D.AL, r * 6 + 1, none⟩ = some (.slice none 0 0) ∧ w'.cell? ⟨D.AL, r * 6 + 2, none⟩ = some (.slice none 0 0) ∧ w'.cell? ⟨D.AL, r * 6 + 3, none⟩ = some (.int .i64 0) ∧ w'.cell? ⟨D.AL, r * 6 + 4, none⟩ = some (.int .i64 0) ∧ w'.cell? ⟨D.AL, r * 6 + 5, none⟩ = some (.int .i64 0)) := by
                intro w' hw'
                have hj := ok.j1
                have hjP : D.JB ≠ D.PL := fun e => hj.2 (by rw [e]; exact mem_S.1)
                have hxP : w.heap.size ≠ D.PL := by omega
                have hx0 := hbW.cell (b := w.heap.size) (o := 0) (by simpa using hxP) xb2
                refine ⟨(hw'.cell (by omega) hxP).trans hx0, (hw'.cell (by omega) ok.a1.symm).trans hDW.k0, (hw'.cell (by omega) ok.a1.symm).trans hDW.k1, (hw'.cell (by omega) ok.a1.symm).trans hDW.k4, (hw'.cell (by omega) hjP).trans (hDW.stc.job r hrn), ?_⟩
                have hA := ok.a3.symm
                exact ⟨(hw'.cell (by omega) hA).trans hal'.1, (hw'.cell (by omega) hA).trans hal'.2.1, (hw'.cell (by omega) hA).trans hal'.2.2.1, (hw'.cell (by omega) hA).trans hal'.2.2.2.1, (hw'.cell (by omega) hA).trans hal'.2.2.2.2.1, (hw'.cell (by omega) hA).trans hal'.2.2.2.2.2⟩
              have hS : Kq D.PL w2.heap.size W W.drew := fun _ _ _ => rfl
              have hRel := release_any D.PL (unmL Q (markL Q us (ps.take k)) (pre.map fun x => x.1.2)) (Q.m r) (Q.nf r) (ap2 r) (some ⟨D.jb r, 0, none⟩) W.drew hp.drew ((hN.but hNe hbW).but hNe (But.refl _ _).drew) hNe
              rw [hap] at hRel
              have HRel := hide hRel
              have HX := hide (show _ ∧ _ from ⟨hp, hbW⟩)
              have hWs := hbW.size
              clear hRel hal' hN hDW hp hbW
              gi_wp2
              refine region_in l _ (S := Kq D.PL w2.heap.size W) (by kernel_rfl) (noDefer (ops := rel20Ops) (by kernel_rfl)) ?hlo ?_
              case hlo => exact fun ⟨_, _, h⟩ => h
              refine rel20 Q D r w.heap.size la ll lc _ _ _ _ _ _ _ _ _ _ _ _ _ _ _ _ _ _ _ _ _ _ _ _ _ _ _ _ _ _ _ _ _ _ _ _ _ _ _ _ _ _ _ _ _ _ _ _ _ _ _ _ _ _ _ _ _ _ _ _ _ _ _ _ _ _ _ _ _ _ _ _ _ _ _ _ _ _ _ _ _ _ _ _ _ _ _ _ _ _ _ _ _ (Kq D.PL w2.heap.size W) _ (fun _ _ _ _ h => h) hrn HK.out hS (HRel.out.mono ?_)
              rintro e' w' ⟨rfl, hp', hb'⟩
              have hb2' : But [D.PL] W w' := (But.refl _ _).drew.trans hb'
              refine ⟨rfl, Kq.of_but hb2' hWs, keepsO hb2' HX.out.1, Kq.of_but hb2' hWs, ?_, HX.out.2.trans hb2'⟩
              rw [List.map_append, List.map_singleton, unmL_snoc, ← Hr.out]
              exact hp'
            case done =>
              rintro D' ys W hD' rfl ⟨hp, hb⟩ hK
              go_wp2_with fail
              refine ⟨by simp, .inl ⟨_, _, rfl, run_takeDeferred hK, ?_⟩⟩
              refine ⟨_, results_tmp rfl _ _ _, ?_⟩
              rw [elts_rev, unm_mark HMk.out.fit] at hp
              have hpz := hp.lt
              have hw2z := HL.out.1.pol.lt
              have hbf : But [D.PL] w2 (W.putObj D' (.deferred none)) := hb.grown (grownBy_putObj' W D' (.deferred none)) (fun k hk => by cases hk; exact .inr hD')
              have hpf : Pol D.PL us (W.putObj D' (.deferred none)) := hp.keep (World.putObj_heap_other (by omega))
              have hff : pendFit Q us ps = false := by
                have e : ps = ps.take k ++ (t :: ps.drop (k + 1)) := by
                  rw [Ht.out, ← List.drop_eq_getElem_cons hkl, List.take_append_drop]
                rw [e, pendFit_app, HMk.out.fit]
                simp [pendFit, hfit]
              refine ⟨ap2, by rw [hff]; rfl, (HM.out.2.trans HL.out.2.1).trans (hbf.sub (by intro k hk; simp only [List.mem_singleton] at hk; subst hk; simp)), H2.out.2.1, ?_, fun h => by rw [hff] at h; cases h⟩
              rw [if_neg (by rw [hff]; decide)]
              exact HL.out.1.but ok hbf hpf
            case stop =>
              rintro D' c pre W _ _ h _
              exact h.elim
      · have hke : k = ps.length := by omega
        subst hke
        clear Mk
        go_wp2_with fail
        refine ⟨_, results_tmp rfl _ _ _, ?_⟩
        have hf := HMk.out.fit
        rw [List.take_length] at hf
        refine ⟨ap', by rw [hf]; rfl, HM.out.2.trans HMk.out.but, HMk.out.oth, ?_, fun _ => ?_⟩
        · rw [if_pos hf]
          have := HMk.out.dyn
          rwa [List.take_length] at this
        · have := HMk.out.alc
          rwa [List.take_length] at this
end Go.Proofs.Ybulkbfpk
