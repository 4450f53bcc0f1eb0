import Derived.Test.YbulkbfpkFit
namespace Go.Proofs.Ybulkbfpk
open Go.RowKit Go.Shelf
/-- The picked nodes of the jobs of ps, as the law keeps them. -/
def Pkn (Q : Dat) (nbk : Nat → Nat) (PN : Nat) (ps : List Nat) (w : World) : Prop := ∀ t, t ∈ ps → t < Q.n ∧ Q.m t ≤ 1024 ∧ w.cell? ⟨PN, t, none⟩ = some (.slice (some ⟨nbk t, 0, none⟩) (Q.m t) (Q.m t)) ∧ (∀ i, i < Q.m t → w.cell? ⟨nbk t, i, none⟩ = some (.int .i64 (Q.nf t i))) ∧ ∀ i, i < Q.m t → Q.nf t i < 8
set_option maxRecDepth 20000 in
set_option maxHeartbeats 2000000 in
theorem pendfit_some (Q : Dat) (us : Nat → Bool) (ps : List Nat) (g c : Nat) (nbk : Nat → Nat) (PN n' : Nat) (w : World) (hlen : ps.length ≤ 1024) (hp : ∀ k (hk : k < ps.length), w.cell? ⟨g, k, none⟩ = some (.int .i64 (ps[k] : Int))) (hq : Pkn Q nbk PN ps w) :
    Calls Yba.prog 11 #[.agg (usA us), .slice (some ⟨g, 0, none⟩) ps.length c, .slice (some ⟨PN, 0, none⟩) Q.n n'] w fun e w' => e = .returned (.bool (pendFit Q us ps)) ∧ Below w.heap.size w w' := by
  have HP := hide hp
  have HQ := hide hq
  have L0 : Below w.heap.size w ((w.alloc (.cells (usA us) 109)).alloc (.cells (usA us) 109)) := ((Below.refl _ _).alloc (Nat.le_refl _) _).alloc (by simp) _
  have B0 : ((w.alloc (.cells (usA us) 109)).alloc (.cells (usA us) 109)).heap[w.heap.size + 1]? = some (.cells (usA us) 109) := by
    have := newBlock (w.alloc (.cells (usA us) 109)) (.cells (usA us) 109)
    rwa [show (w.alloc (.cells (usA us) 109)).heap.size = w.heap.size + 1 by simp] at this
  have H0 := hide (show _ ∧ _ from ⟨L0, B0⟩)
  clear hp hq L0 B0
  show Calls Yba.prog 11 #[.agg #[.bool (us 0), .bool (us 1), .bool (us 2), .bool (us 3), .bool (us 4), .bool (us 5), .bool (us 6), .bool (us 7)], .slice (some ⟨g, 0, none⟩) ps.length c, .slice (some ⟨PN, 0, none⟩) Q.n n'] w _
  go_enter Yba.func11, Yba.ntmps11
  go_wp2_with fail
  go_loopw [15] (fun iv wr => ∃ k : Nat, k ≤ ps.length ∧ iv = .int .i64 k ∧ pendFit Q us (ps.take k) = true ∧ Below w.heap.size w wr ∧ wr.heap[w.heap.size + 1]? = some (.cells (usA (markL Q us (ps.take k))) 109)) (fun iv _ => ps.length - (intOf iv).toNat)
  case atStart => exact ⟨0, Nat.zero_le _, rfl, rfl, H0.out.1, H0.out.2⟩
  case round =>
    obtain ⟨k, hk, rfl, hf, L, hb⟩ := hrel
    have H1 := hide (show _ ∧ _ ∧ _ from ⟨hf, L, hb⟩)
    by_cases hkl : k < ps.length
    · obtain ⟨t, ht⟩ : ∃ t, t = ps[k] := ⟨_, rfl⟩
      have hmem : t ∈ ps := by rw [ht]; exact List.getElem_mem hkl
      have hcell : ∀ b o u, w.cell? ⟨b, o, none⟩ = some u → wr.cell? ⟨b, o, none⟩ = some u := fun b o u h => (World.cell?_of_block (a := ⟨b, o, none⟩) (L.block b (lt_of_cell h))).trans h
      have ck := hcell _ _ _ (HP.out k hkl)
      rw [← ht] at ck
      obtain ⟨htn, hm1, hcs, hcn, h8⟩ := HQ.out t hmem
      have cs := hcell _ _ _ hcs
      have htk : ps.take (k + 1) = ps.take k ++ [t] := by rw [List.take_succ_eq_append_getElem hkl, ht]
      have Htk := hide htk
      have hsz := lt_of_block hb
      have hdrop : Hid (ps = ps.take k ++ (t :: ps.drop (k + 1))) := by
        show ps = _
        rw [ht, ← List.drop_eq_getElem_cons hkl, List.take_append_drop]
      have r0 := cells_at hb 0
      have r1 := cells_at hb 1
      have r2 := cells_at hb 2
      have r3 := cells_at hb 3
      have r4 := cells_at hb 4
      have r5 := cells_at hb 5
      have r6 := cells_at hb 6
      have r7 := cells_at hb 7
      simp only [usA_at _ _ (by decide : 0 < 8), usA_at _ _ (by decide : 1 < 8), usA_at _ _ (by decide : 2 < 8), usA_at _ _ (by decide : 3 < 8), usA_at _ _ (by decide : 4 < 8), usA_at _ _ (by decide : 5 < 8), usA_at _ _ (by decide : 6 < 8), usA_at _ _ (by decide : 7 < 8)] at r0 r1 r2 r3 r4 r5 r6 r7
      have HFit := hide (fits_any (markL Q us (ps.take k)) (Q.m t) (Q.nf t) (nbk t) (Q.m t) wr.drew hm1 h8 (fun i hi => hcell _ _ _ (hcn i hi)))
      have HN := hide (show _ ∧ _ from ⟨hcn, h8⟩)
      clear ht htk hf L hb hcn h8 hcs
      go_upto_region 5 with fail
      go_cut [9, 25] (fun t9 b25 w3 => t9 = .int .i64 t ∧ b25 = .bool (!(fitsF (markL Q us (ps.take k)) (Q.nf t) (Q.m t))) ∧ Below wr.heap.size wr w3)
      case first =>
        go_region_with (go_at_call 12; go_loud (refine HFit.out.mono ?_; rintro e w2 ⟨rfl, l2⟩; have H2 := hide l2; clear l2))
        all_goals go_wp2_with fail
        all_goals go_meet
        all_goals exact ⟨rfl, rfl, (Below.refl _ _).drew.trans H2.out⟩
      case rest =>
        obtain ⟨rfl, rfl, l2⟩ := hcut
        clear r0 r1 r2 r3 r4 r5 r6 r7 HFit
        have cs2 := (World.cell?_of_block (a := ⟨PN, t, none⟩) (l2.block PN (lt_of_cell cs))).trans cs
        have hbc : wc.heap[w.heap.size + 1]? = some (.cells (usA (markL Q us (ps.take k))) 109) := (l2.block _ hsz).trans H1.out.2.2
        have lw : Below w.heap.size w wc := H1.out.2.1.trans (l2.mono H1.out.2.1.size)
        have H2 := hide (show _ ∧ _ from ⟨hbc, lw⟩)
        clear l2 cs ck hbc lw hcell
        cases hfit : fitsF (markL Q us (ps.take k)) (Q.nf t) (Q.m t) with
        | false =>
          go_wp2_with fail
          go_ret
          refine ⟨?_, H2.out.2⟩
          rw [hdrop.out, pendFit_app, H1.out.1]
          simp [pendFit, hfit]
        | true =>
          go_wp2_with fail
          go_loopw [31] (fun iv w3 => ∃ j : Nat, j ≤ Q.m t ∧ iv = .int .i64 j ∧ Below w.heap.size w w3 ∧ w3.heap[w.heap.size + 1]? = some (.cells (usA (markF (markL Q us (ps.take k)) (Q.nf t) j)) 109)) (fun iv _ => Q.m t - (intOf iv).toNat)
          case atStart => exact ⟨0, Nat.zero_le _, rfl, H2.out.2, H2.out.1⟩
          case round =>
            obtain ⟨j, hj, rfl, L3, b3⟩ := hrel
            have H3 := hide (show _ ∧ _ from ⟨L3, b3⟩)
            by_cases hjl : j < Q.m t
            · have hxw := HN.out.1 j hjl
              have cj := (World.cell?_of_block (a := ⟨nbk t, j, none⟩) (L3.block _ (lt_of_cell hxw))).trans hxw
              have hx8 := HN.out.2 j hjl
              have cu := (cells_at b3 (Q.nf t j)).trans (usA_at _ _ hx8)
              have fu := frozen_at b3 (Q.nf t j)
              clear L3 b3 hxw
              generalize hx : Q.nf t j = x at *
              go_wp2_with fail
              go_roundw
              case rel =>
                refine ⟨j + 1, by omega, by simp, H3.out.1.setCell (p := ⟨w.heap.size + 1, x, none⟩) (by show _ ≤ w.heap.size + 1; omega) _, ?_⟩
                rw [heap_setCell_same _ _ _ _ _ _ H3.out.2, usA_set _ _ hx8]
                simp only [markF, hx]
              case measure => simp [intOf]; omega
            · have hje : j = Q.m t := by omega
              subst hje
              clear L3 b3
              go_wp2_with fail
              case roundEnd =>
                refine ⟨⟨k + 1, by omega, by simp, ?_, H3.out.1, ?_⟩, by simp [intOf]; omega⟩
                · rw [Htk.out, pendFit_app, H1.out.1]; simp [pendFit, hfit]
                · rw [Htk.out, markL_snoc]; exact H3.out.2
    · have hke : k = ps.length := by omega
      subst hke
      clear hf L hb
      go_wp2_with fail
      go_ret
      have hf := H1.out.1
      rw [List.take_length] at hf
      exact ⟨by rw [hf]; rfl, H1.out.2.1⟩
set_option maxRecDepth 20000 in
set_option maxHeartbeats 1000000 in
theorem pendfit_nil (us : Nat → Bool) (v : Value) (w : World) :
    Calls Yba.prog 11 #[.agg (usA us), .slice none 0 0, v] w fun e w' => e = .returned (.bool true) ∧ Below w.heap.size w w' := by
  have L0 : Below w.heap.size w ((w.alloc (.cells (usA us) 109)).alloc (.cells (usA us) 109)) := ((Below.refl _ _).alloc (Nat.le_refl _) _).alloc (by simp) _
  have H0 := hide L0
  clear L0
  show Calls Yba.prog 11 #[.agg #[.bool (us 0), .bool (us 1), .bool (us 2), .bool (us 3), .bool (us 4), .bool (us 5), .bool (us 6), .bool (us 7)], .slice none 0 0, v] w _
  go_enter Yba.func11, Yba.ntmps11
  go_wp2_with fail
  go_loopw [15] (fun iv wr => iv = .int .i64 0 ∧ Below w.heap.size w wr) (fun iv _ => 0)
  case atStart => exact ⟨rfl, H0.out⟩
  case round =>
    obtain ⟨rfl, L⟩ := hrel
    have HL := hide L
    clear L
    go_wp2_with fail
    go_ret
    exact ⟨rfl, HL.out⟩
theorem pendfit_any (Q : Dat) (us : Nat → Bool) (ps : List Nat) (v : Value) (B : Nat) (nbk : Nat → Nat) (PN n' : Nat) (w : World) (hlen : ps.length ≤ 1024) (ho : w.ownsRow B 3 1 v ps.length (psV ps)) (hq : Pkn Q nbk PN ps w) :
    Calls Yba.prog 11 #[.agg (usA us), v, .slice (some ⟨PN, 0, none⟩) Q.n n'] w fun e w' => e = .returned (.bool (pendFit Q us ps)) ∧ Below w.heap.size w w' := by
  rcases ho.2 with ⟨rfl, h0⟩ | ⟨g, cap, cur, e, _⟩
  · have : ps = [] := List.length_eq_zero_iff.1 h0
    subst this
    exact pendfit_nil us _ w
  · subst e
    refine pendfit_some Q us ps g cap nbk PN n' w hlen (fun k hk => ?_) hq
    rw [ho.cellAt k (by omega)]
    simp [psV, hk]
end Go.Proofs.Ybulkbfpk
