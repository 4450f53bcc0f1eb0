import Derived.Test.YbulkbfpkSights
namespace Go.Proofs.Ybulkbfpk
open Go.RowKit
theorem get11 {A : Array Value} {v u : Value} (j : Nat) (hj : j ≠ 11) (h : A[j]? = some v) : (A.setIfInBounds 11 u)[j]? = some v := by
  rw [Array.getElem?_setIfInBounds_ne (by omega)]; exact h
theorem ts_kept {TL B AB : Nat} {A : Array Value} {w w' : World} (hq : ∀ k, k < w.heap.size → k ≠ TL → (∀ A fz, w.heap[k]? ≠ some (.cells A 21 fz)) → w'.heap[k]? = w.heap[k]?) (hA : w.heap[AB]? = some (.cells A 86)) (hAB : B ≤ AB) (htl : TL < B) : w'.heap[AB]? = some (.cells A 86) := by
  have hl : AB < w.heap.size := by
    rcases Nat.lt_or_ge AB w.heap.size with h | h
    · exact h
    · rw [Array.getElem?_eq_none h] at hA; cases hA
  exact (hq AB hl (by omega) (by intro A' fz' e; rw [hA] at e; cases e)).trans hA
set_option maxRecDepth 20000 in
set_option maxHeartbeats 1000000 in
theorem drops_any (I : Inp) (k : Nat) (TL AB B : Nat) (sg : Value) (X : Nat → List Value) (A : Array Value) (w : World) (T : TS TL B X w) (hkd : w.cell? ⟨TL, 74, none⟩ = some (.bool I.kd)) (hA : w.heap[AB]? = some (.cells A 86)) (hAB : B ≤ AB) (hA11 : A[11]? = some sg) (hA5 : A[5]? = some (.int .i32 (I.opn k))) (hA6 : A[6]? = some (.int .i32 (I.dev k))) (hA9 : A[9]? = some (.int .i32 (I.cor k))) (hs : Sights B TL sg (I.sm k) (I.sv k) w) (hlen : ∀ i, (X i).length + I.sm k ≤ 2097152) :
    Calls Yba.prog 14 #[.pointer (some ⟨TL, 0, none⟩), .pointer (some ⟨AB, 0, none⟩)] w fun e w' => e = .returned (.tuple #[]) ∧ TS TL B (I.dropX X k) w' ∧ Fra TL B w w' := by
  have htl := T.tl
  have HX : Hid (∀ i, (X i).length ≤ 2097152) := fun i => by have := hlen i; omega
  have HY : Hid (∀ i, i ≠ 3 → (upd X 3 (X 3 ++ pickI (I.sv k) (I.sm k)) i).length ≤ 2097152) := fun i hi => by rw [upd_ne _ _ hi]; exact HX.out i
  have HS := hide (sights_any TL AB B (I.sm k) sg (I.sv k) X A w T hA hAB hA11 hs (hlen 3))
  have HK := hide hkd
  have H5 := hide (get11 5 (by decide) hA5 (u := .slice none 0 0))
  have H6 := hide (get11 6 (by decide) hA6 (u := .slice none 0 0))
  have H9 := hide (get11 9 (by decide) hA9 (u := .slice none 0 0))
  clear T hA hA5 hA6 hA9 hA11 hs hlen hkd
  go_enter Yba.func14, Yba.ntmps14
  go_wp2_with fail
  refine HS.out.mono ?_
  rintro e1 w1 ⟨rfl, t1, f1, a1⟩
  have HA1 := hide a1
  have c5 := (cells_at a1 5).trans H5.out
  have HF1 := hide f1
  have HC1 := hide (ts_drop17 t1.drew 25 0 (I.opn k) (by decide) (by decide) (HY.out 0 (by decide)))
  clear a1 f1 HS
  have HB1 := hide t1.hB
  clear t1
  go_wp2_with fail
  go_cut [4] (fun _ w2 => TS TL B (upd (upd X 3 (X 3 ++ pickI (I.sv k) (I.sm k))) 0 (X 0 ++ [.int .i32 (I.opn k)])) w2 ∧ Fra TL B w w2 ∧ w2.heap[AB]? = some (.cells (A.setIfInBounds 11 (.slice none 0 0)) 86))
  case first =>
    go_region_with (go_at_call 17; go_loud (refine HC1.out.mono ?_; rintro e' w2 ⟨rfl, q1, q2, q3⟩; have HQ := hide (show _ ∧ _ ∧ _ from ⟨q1, q2, q3⟩); clear q1 q2 q3))
    all_goals (go_wp2_with fail; go_meet)
    case rel => exact ⟨HQ.out.1, HF1.out.trans ((Fra.refl _ _ _).drew.trans HQ.out.2.1), ts_kept (w := w1.drew) HQ.out.2.2 HA1.out hAB htl⟩
  case rest =>
    obtain ⟨t2, f2, a2⟩ := hcut
    have k2 := (f2.cell 74 (by decide)).trans HK.out
    have z2 := fun q => t2.fz q
    have HQ := hide (show _ ∧ _ ∧ _ from ⟨t2, f2, a2⟩)
    have HC2 := hide (ts_drop17 t2.drew 67 1 (I.dev k) (by decide) (by decide) (HX.out 1))
    have c6 := (cells_at a2 6).trans H6.out
    clear t2 f2 a2
    go_upto_if 18 with fail
    go_cut [4] (fun _ w3 => TS TL B (upd (upd (upd X 3 (X 3 ++ pickI (I.sv k) (I.sm k))) 0 (X 0 ++ [.int .i32 (I.opn k)])) 1 (if I.kd then X 1 ++ [.int .i32 (I.dev k)] else X 1)) w3 ∧ Fra TL B w w3 ∧ w3.heap[AB]? = some (.cells (A.setIfInBounds 11 (.slice none 0 0)) 86))
    case first =>
      cases hd : I.kd with
      | true =>
        rw [hd] at k2
        go_wp2_with fail
        go_region_with (go_at_call 17; go_loud (refine HC2.out.mono ?_; rintro e' w2 ⟨rfl, q1, q2, q3⟩; have HP := hide (show _ ∧ _ ∧ _ from ⟨q1, q2, q3⟩); clear q1 q2 q3))
        all_goals (go_wp2_with fail; go_meet)
        case rel => exact ⟨HP.out.1.ext (by intro i hi; by_cases e : i = 1 <;> simp [upd, e, hd]), HQ.out.2.1.trans ((Fra.refl _ _ _).drew.trans HP.out.2.1), ts_kept (w := wc.drew) HP.out.2.2 HQ.out.2.2 hAB htl⟩
      | false =>
        rw [hd] at k2
        go_wp2_with fail
        go_meet
        case rel => exact ⟨HQ.out.1.ext (by intro i hi; by_cases e : i = 1 <;> simp [upd, e, hd]), HQ.out.2.1, HQ.out.2.2⟩
    case rest =>
      clear k2 z2 c6 HC2 HQ
      obtain ⟨t3, f3, a3⟩ := hcut
      have HQ3 := hide (show _ ∧ _ ∧ _ from ⟨t3, f3, a3⟩)
      have HC3 := hide (ts_drop18 t3.drew 85 2 (I.cor k) (by decide) (by decide) (HX.out 2))
      have c9 := (cells_at a3 9).trans H9.out
      clear t3 f3 a3
      by_cases hc : I.cor k = -1
      · rw [hc] at c9
        go_wp2_with fail
        go_end0
        refine ⟨rfl, HQ3.out.1.ext (fun i hi => ?_), HQ3.out.2.1⟩
        match i, hi with
        | 0, _ | 1, _ | 2, _ | 3, _ => simp [upd, Inp.dropX, hc]
      · have hc' : (I.cor k == -1) = false := by simpa using hc
        go_wp2_with fail
        go_region_with (go_at_call 18; go_loud (refine HC3.out.mono ?_; rintro e' w2 ⟨rfl, q1, q2, q3⟩; have HP := hide (show _ ∧ _ ∧ _ from ⟨q1, q2, q3⟩); clear q1 q2 q3))
        all_goals go_wp2_with fail
        go_end0
        refine ⟨rfl, HP.out.1.ext (fun i hi => ?_), HQ3.out.2.1.trans ((Fra.refl _ _ _).drew.trans HP.out.2.1)⟩
        match i, hi with
        | 0, _ | 1, _ | 2, _ | 3, _ => simp [upd, Inp.dropX, hc]
end Go.Proofs.Ybulkbfpk
