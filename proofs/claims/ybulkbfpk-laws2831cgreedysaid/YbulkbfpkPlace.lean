import Derived.Test.YbulkbfpkPol
import Derived.Laws.ResultCell
import Derived.Test.YbulkbfpkPut
namespace Go.Proofs.Ybulkbfpk
open Go.RowKit
def alz (v : Value) : Array Value := #[v, .slice none 0 0, .slice none 0 0, .int .i64 0, .int .i64 0, .int .i64 0]
theorem size44 : (Yba.prog.info? 44).map (·.size) = some 6 := by kernel_rfl
theorem ret45 {R : Ending → World → Prop} {a : Act} {w : World} {v : Value} {b : Bool} {RB : Nat} (h6 : a.tmps.getD 6 undef = .pointer (some ⟨RB, 0, none⟩)) (h7 : a.tmps.getD 7 undef = .bool b) (hd : a.defers = []) (hb : w.heap[RB]? = some (.cells (alz v) 44)) (hR : R (.returned (.tuple #[.agg (alz v), .bool b])) w) : bodyPost Yba.prog Yba.f45 R .ret a w := by
  refine bodyPost_ret (v := .tuple #[.agg (alz v), .bool b]) ((results_cell_tmp rfl _ _ _).trans ?_) hd hR
  rw [h6, h7]
  have hl := run_loadVar_row (P := Yba.prog) w RB 44 44 (alz v) (0, 0) _ hb Yba.underlying44 rfl size44
  simp [asAddr, hl]
theorem alz_store {w : World} {RB : Nat} {u : Value} (h : w.heap[RB]? = some (.cells (alz u) 44)) (v : Value) : (w.setCells RB 0 [v, .slice none 0 0, .slice none 0 0, .int .i64 0, .int .i64 0, .int .i64 0]).heap[RB]? = some (.cells (alz v) 44) := by
  simp only [World.setCells]
  have h0 := heap_setCell_same w RB 0 _ 44 v h
  have h1 := heap_setCell_same _ RB (0 + 1) _ 44 (.slice none 0 0) h0
  have h2 := heap_setCell_same _ RB (0 + 1 + 1) _ 44 (.slice none 0 0) h1
  have h3 := heap_setCell_same _ RB (0 + 1 + 1 + 1) _ 44 (.int .i64 0) h2
  have h4 := heap_setCell_same _ RB (0 + 1 + 1 + 1 + 1) _ 44 (.int .i64 0) h3
  have h5 := heap_setCell_same _ RB (0 + 1 + 1 + 1 + 1 + 1) _ 44 (.int .i64 0) h4
  exact h5
theorem Pol.other {PL RB : Nat} {us : Nat → Bool} {w : World} (h : Pol PL us w) (hne : PL ≠ RB) (vs : List Value) (o : Nat) : Pol PL us (w.setCells RB o vs) := h.keep (heap_setCells _ _ _ _ _ hne)
theorem But.setNews {S : List Nat} {w : World} {b : Nat} (hp : w.heap.size ≤ b) : ∀ (vs : List Value) (o : Nat) (W : World), But S w W → But S w (W.setCells b o vs)
  | [], _, _, h => h
  | v :: r, o, _, h => But.setNews hp r (o + 1) _ (h.setNew (p := ⟨b, o, none⟩) hp v)
theorem own_mono {w : World} {B B' : Nat} {e : TypeId} {v : Value} {n : Nat} {xs : List Value} (h : w.ownsRow B e 1 v n xs) (hb : B' ≤ B) : w.ownsRow B' e 1 v n xs := by
  refine ⟨h.1, h.2.imp id ?_⟩
  rintro ⟨g, cap, cur, e, hB, r⟩
  exact ⟨g, cap, cur, e, Nat.le_trans hb hB, r⟩
def PlacePost (PL : Nat) (us : Nat → Bool) (m : Nat) (f : Nat → Nat) (w : World) (e : Ending) (w' : World) : Prop :=
  ∃ v, e = .returned (.tuple #[.agg #[v, .slice none 0 0, .slice none 0 0, .int .i64 0, .int .i64 0, .int .i64 0], .bool (fitsF us f m)]) ∧ But [PL] w w' ∧ (fitsF us f m = true → Pol PL (markF us f m) w' ∧ w'.ownsRow w.heap.size 3 1 v m (rowN m f)) ∧ (fitsF us f m = false → Pol PL us w' ∧ v = .slice none 0 0)
set_option maxRecDepth 20000 in
set_option maxHeartbeats 1000000 in
theorem place_any (PL : Nat) (us : Nat → Bool) (m : Nat) (f : Nat → Nat) (g c : Nat) (jp : Option Addr) (w : World) (h : Pol PL us w) (hm1 : m ≤ 1024) (hfl : ∀ i, i < m → f i < 8) (hc : ∀ i, i < m → w.cell? ⟨g, i, none⟩ = some (.int .i64 (f i))) (hg : g ≠ PL) :
    Calls Yba.prog 45 #[.pointer (some ⟨PL, 0, none⟩), .pointer jp, .slice (some ⟨g, 0, none⟩) m c] w (PlacePost PL us m f w) := by
  have hlt := h.lt
  have HP := hide h
  have HF := hide hfl
  have HC := hide hc
  obtain ⟨z, hz⟩ := h.calls
  have fz9 := h.fz 9
  clear hfl hc h
  go_enter Yba.func45, Yba.ntmps45
  go_wp2_with fail
  go_loopw [21] (fun iv wr => ∃ i : Nat, i ≤ m ∧ iv = .int .i64 i ∧ fitsF us f i = true ∧ Pol PL us wr ∧ But [PL] w wr ∧ wr.heap[w.heap.size]? = some (.cells (alz (.slice none 0 0)) 44)) (fun iv _ => m - (intOf iv).toNat)
  case atStart =>
    refine ⟨0, Nat.zero_le _, rfl, rfl, (HP.out.call _).alloc _, ((But.refl _ _).setCell (p := ⟨PL, 9, none⟩) (by simp) _).alloc _, ?_⟩
    have := newBlock (w.setCell ⟨PL, 9, none⟩ (.int .i64 (wrap64 (z + 1)))) (.cells (alz (.slice none 0 0)) 44)
    rwa [show (w.setCell ⟨PL, 9, none⟩ (.int .i64 (wrap64 (z + 1)))).heap.size = w.heap.size by simp [World.setCell]] at this
  case round =>
    obtain ⟨i, hi, rfl, h0, h1, h2, h3⟩ := hrel
    have H := hide (show _ ∧ _ ∧ _ from ⟨h1, h2, h3⟩)
    have H0 := hide h0
    clear h0
    by_cases hl : i < m
    · have ci := h2.cell (b := g) (o := i) (by simpa using hg) (HC.out i hl)
      have hf := HF.out i hl
      have cu := h1.us (f i) hf
      have fz := h1.fz (1 + f i)
      have r0 := cells_at h3 0
      have r1 := cells_at h3 1
      have r2 := cells_at h3 2
      have r3 := cells_at h3 3
      have r4 := cells_at h3 4
      have r5 := cells_at h3 5
      simp only [alz, List.getElem?_toArray, List.getElem?_cons_zero, List.getElem?_cons_succ] at r0 r1 r2 r3 r4 r5
      have fr := frozen_at h3
      clear h1 h2 h3
      generalize hx : f i = x at *
      cases hu : us x with
      | true =>
        rw [hu] at cu
        have hff : fitsF us f m = false := fitsF_false hl (by rw [hx]; exact hu)
        go_wp2_with fail
        refine ret45 (RB := w.heap.size) (b := false) (v := .slice none 0 0) rfl rfl rfl (alz_store H.out.2.2 (.slice none 0 0)) ?_
        refine ⟨.slice none 0 0, by rw [hff]; rfl, But.setNews (Nat.le_refl _) [.slice none 0 0, .slice none 0 0, .slice none 0 0, .int .i64 0, .int .i64 0, .int .i64 0] 0 wr H.out.2.1, (fun h => by rw [hff] at h; cases h), fun _ => ⟨H.out.1.other (by omega) [.slice none 0 0, .slice none 0 0, .slice none 0 0, .int .i64 0, .int .i64 0, .int .i64 0] 0, rfl⟩⟩
      | false =>
        rw [hu] at cu
        go_wp2_with fail
        go_roundw
        case rel => exact ⟨i + 1, by omega, by simp, by simp [fitsF, H0.out, hx, hu], H.out.1, H.out.2.1, H.out.2.2⟩
        case measure => simp [intOf]; omega
    · have hie : i = m := by omega
      subst hie
      clear h1 h2 h3
      go_wp2_with fail
      go_loopw [43] (fun iv wr => ∃ j : Nat, j ≤ i ∧ iv = .int .i64 j ∧ Pol PL (markF us f j) wr ∧ But [PL] w wr ∧ wr.heap[w.heap.size]? = some (.cells (alz (.slice none 0 0)) 44)) (fun iv _ => i - (intOf iv).toNat)
      case atStart => exact ⟨0, Nat.zero_le _, rfl, H.out.1, H.out.2.1, H.out.2.2⟩
      case round =>
        obtain ⟨j, hj, rfl, h1, h2, h3⟩ := hrel
        have G := hide (show _ ∧ _ ∧ _ from ⟨h1, h2, h3⟩)
        by_cases hl : j < i
        · have ci := h2.cell (b := g) (o := j) (by simpa using hg) (HC.out j hl)
          have hf := HF.out j hl
          have cu := h1.us (f j) hf
          have fz := h1.fz (1 + f j)
          clear h1 h2 h3
          generalize hx : f j = x at *
          go_wp2_with fail
          go_roundw
          case rel =>
            refine ⟨j + 1, by omega, by simp, ?_, G.out.2.1.setCell (by simp) _, (Below.heap_setCell _ _ _ _ (by show w.heap.size ≠ PL; omega)).trans G.out.2.2⟩
            have := G.out.1.put x hf true
            simp only [markF, hx]
            exact this
          case measure => simp [intOf]; omega
        · have hje : j = i := by omega
          subst hje
          have hcl := fun q hq => h2.cell (b := g) (o := q) (by simpa using hg) (HC.out q hq)
          have hadd : ∀ q, (⟨g, 0, none⟩ : Addr).add q = ⟨g, q, none⟩ := fun q => by unfold Addr.add; split <;> simp_all
          have HCl := hide (clone_some ⟨g, 0, none⟩ j c f wr hm1 (fun q hq => by rw [hadd]; exact hcl q hq))
          have hsz := h2.size
          have szR := h3
          clear h1 h2 hcl hadd
          go_wp2_with fail
          refine HCl.out.mono ?_
          rintro e' w2 ⟨v, rfl, hv, hb2⟩
          have hR : w2.heap[w.heap.size]? = some (.cells (alz (.slice none 0 0)) 44) := (hb2.block _ (by
            rcases Nat.lt_or_ge w.heap.size wr.heap.size with h | h
            · exact h
            · rw [Array.getElem?_eq_none h] at szR; cases szR)).trans szR
          have hP := G.out.1.keep (hb2.block _ G.out.1.lt)
          have hB := G.out.2.1.trans (But.of_below hb2)
          have r0 := cells_at hR 0
          have r1 := cells_at hR 1
          have r2 := cells_at hR 2
          have r3 := cells_at hR 3
          have r4 := cells_at hR 4
          have r5 := cells_at hR 5
          simp only [alz, List.getElem?_toArray, List.getElem?_cons_zero, List.getElem?_cons_succ] at r0 r1 r2 r3 r4 r5
          have fr := frozen_at hR
          have K := hide (show _ ∧ _ ∧ _ ∧ _ from ⟨hR, hP, hB, hv⟩)
          have hwr : w.heap.size < wr.heap.size := by
            rcases Nat.lt_or_ge w.heap.size wr.heap.size with h | h
            · exact h
            · rw [Array.getElem?_eq_none h] at szR; cases szR
          have hs2 := hb2.size
          rcases own_slice hv with ⟨cc, ev, hv0⟩ | ⟨gg, cc, ev⟩
          ·
            subst ev
            clear hv hb2 hR hP hB szR h3
            go_wp2_with fail
            refine ret45 (RB := w.heap.size) (b := true) (v := .slice none 0 cc) rfl rfl rfl (alz_store K.out.1 (.slice none 0 cc)) ?_
            refine ⟨.slice none 0 cc, by rw [H0.out]; rfl, But.setNews (Nat.le_refl _) [.slice none 0 cc, .slice none 0 0, .slice none 0 0, .int .i64 0, .int .i64 0, .int .i64 0] 0 w2 K.out.2.2.1, fun _ => ⟨K.out.2.1.other (by omega) [.slice none 0 cc, .slice none 0 0, .slice none 0 0, .int .i64 0, .int .i64 0, .int .i64 0] 0, ?_⟩, (fun h => by rw [H0.out] at h; cases h)⟩
            refine own_kept (w := w2) (w' := w2.setCells w.heap.size 0 [.slice none 0 cc, .slice none 0 0, .slice none 0 0, .int .i64 0, .int .i64 0, .int .i64 0]) (own_mono K.out.2.2.2 (by omega)) fun k hk hBk hlk => heap_setCells _ _ _ _ _ ?_
            have := (K.out.2.2.2.lt k hk).1
            omega
          ·
            subst ev
            clear hv hb2 hR hP hB szR h3
            go_wp2_with fail
            refine ret45 (RB := w.heap.size) (b := true) (v := .slice (some ⟨gg, 0, none⟩) j cc) rfl rfl rfl (alz_store K.out.1 (.slice (some ⟨gg, 0, none⟩) j cc)) ?_
            refine ⟨.slice (some ⟨gg, 0, none⟩) j cc, by rw [H0.out]; rfl, But.setNews (Nat.le_refl _) [.slice (some ⟨gg, 0, none⟩) j cc, .slice none 0 0, .slice none 0 0, .int .i64 0, .int .i64 0, .int .i64 0] 0 w2 K.out.2.2.1, fun _ => ⟨K.out.2.1.other (by omega) [.slice (some ⟨gg, 0, none⟩) j cc, .slice none 0 0, .slice none 0 0, .int .i64 0, .int .i64 0, .int .i64 0] 0, ?_⟩, (fun h => by rw [H0.out] at h; cases h)⟩
            refine own_kept (w := w2) (w' := w2.setCells w.heap.size 0 [.slice (some ⟨gg, 0, none⟩) j cc, .slice none 0 0, .slice none 0 0, .int .i64 0, .int .i64 0, .int .i64 0]) (own_mono K.out.2.2.2 (by omega)) fun k hk hBk hlk => heap_setCells _ _ _ _ _ ?_
            have := (K.out.2.2.2.lt k hk).1
            omega
set_option maxRecDepth 20000 in
set_option maxHeartbeats 1000000 in
theorem release_any (PL : Nat) (us : Nat → Bool) (m : Nat) (f : Nat → Nat) (v : Value) (jp : Option Addr) (w : World) (h : Pol PL us w) (hn : Nds v m f w) (hne : v.ownBlock ≠ some PL) :
    Calls Yba.prog 46 #[.pointer (some ⟨PL, 0, none⟩), .pointer jp, .agg #[v, .slice none 0 0, .slice none 0 0, .int .i64 0, .int .i64 0, .int .i64 0]] w fun e w' => e = .returned (.tuple #[]) ∧ Pol PL (unmarkF us f m) w' ∧ But [PL] w w' := by
  have hlt := h.lt
  have HP := hide h
  have hm1 := hn.m1
  have HF := hide hn.lt
  rcases hn.ex with ⟨rfl, rfl⟩ | ⟨g, c, rfl, hc⟩
  · clear hn h
    go_enter Yba.func46, Yba.ntmps46
    go_wp2_with fail
    go_loopw [11] (fun iv wr => iv = .int .i64 0 ∧ Pol PL us wr ∧ But [PL] w wr) (fun iv _ => 0)
    case atStart => exact ⟨rfl, HP.out.alloc _, (But.refl _ _).alloc _⟩
    case round =>
      obtain ⟨rfl, h1, h2⟩ := hrel
      have H := hide (show _ ∧ _ from ⟨h1, h2⟩)
      clear h1 h2
      go_wp2_with fail
      go_end0
      exact ⟨rfl, H.out.1, H.out.2⟩
  · have HC := hide hc
    have hg : g ≠ PL := fun e => hne (by rw [e]; rfl)
    clear hn h hc
    go_enter Yba.func46, Yba.ntmps46
    go_wp2_with fail
    go_loopw [11] (fun iv wr => ∃ i : Nat, i ≤ m ∧ iv = .int .i64 i ∧ Pol PL (unmarkF us f i) wr ∧ But [PL] w wr) (fun iv _ => m - (intOf iv).toNat)
    case atStart => exact ⟨0, Nat.zero_le _, rfl, HP.out.alloc _, (But.refl _ _).alloc _⟩
    case round =>
      obtain ⟨i, hi, rfl, h1, h2⟩ := hrel
      have H := hide (show _ ∧ _ from ⟨h1, h2⟩)
      by_cases hl : i < m
      · have ci := h2.cell (b := g) (o := i) (by simpa using hg) (HC.out i hl)
        have hf := HF.out i hl
        have cu := h1.us (f i) hf
        have fz := h1.fz (1 + f i)
        clear h1 h2
        generalize hx : f i = x at *
        go_wp2_with fail
        go_roundw
        case rel =>
          refine ⟨i + 1, by omega, by simp, ?_, H.out.2.setCell (by simp) _⟩
          have := H.out.1.put x hf false
          simp only [unmarkF, hx]
          exact this
        case measure => simp [intOf]; omega
      · have hie : i = m := by omega
        subst hie
        clear h1 h2
        go_wp2_with fail
        go_end0
        exact ⟨rfl, H.out.1, H.out.2⟩
end Go.Proofs.Ybulkbfpk
