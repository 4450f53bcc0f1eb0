import Derived.Test.YbulkbfpkAll
namespace Go.Proofs.Ybulkbfpk
open Go.RowKit Go.Shelf
def usA (us : Nat → Bool) : Array Value := #[.bool (us 0), .bool (us 1), .bool (us 2), .bool (us 3), .bool (us 4), .bool (us 5), .bool (us 6), .bool (us 7)]
theorem usA_at (us : Nat → Bool) (x : Nat) (h : x < 8) : (usA us)[x]? = some (.bool (us x)) := by
  match x, h with
  | 0, _ | 1, _ | 2, _ | 3, _ | 4, _ | 5, _ | 6, _ | 7, _ => rfl
theorem usA_set (us : Nat → Bool) (x : Nat) (h : x < 8) (b : Bool) : (usA us).setIfInBounds x (.bool b) = usA (upd us x b) := by
  match x, h with
  | 0, _ | 1, _ | 2, _ | 3, _ | 4, _ | 5, _ | 6, _ | 7, _ => rfl
set_option maxRecDepth 20000 in
set_option maxHeartbeats 1000000 in
theorem fits_any (us : Nat → Bool) (m : Nat) (f : Nat → Nat) (g c : Nat) (w : World) (hm1 : m ≤ 1024) (hfl : ∀ i, i < m → f i < 8) (hc : ∀ i, i < m → w.cell? ⟨g, i, none⟩ = some (.int .i64 (f i))) :
    Calls Yba.prog 12 #[.agg (usA us), .slice (some ⟨g, 0, none⟩) m c] w fun e w' => e = .returned (.bool (fitsF us f m)) ∧ Below w.heap.size w w' := by
  have HF := hide hfl
  have HC := hide hc
  have hbb := newBlock w (.cells (usA us) 109)
  have hB := hide ((Below.refl w.heap.size w).alloc (Nat.le_refl _) (.cells (usA us) 109))
  have HB := hide hbb
  clear hfl hc hbb
  go_enter Yba.func12, Yba.ntmps12
  go_wp2_with fail
  go_loopw [9] (fun iv wr => ∃ i : Nat, i ≤ m ∧ iv = .int .i64 i ∧ fitsF us f i = true ∧ wr = w.alloc (.cells (usA us) 109)) (fun iv _ => m - (intOf iv).toNat)
  case atStart => exact ⟨0, Nat.zero_le _, rfl, rfl, rfl⟩
  case round =>
    obtain ⟨i, hi, rfl, h0, rfl⟩ := hrel
    have H0 := hide h0
    clear h0
    by_cases hl : i < m
    · have hgl := lt_of_cell (HC.out i hl)
      have ci : (w.alloc (.cells (usA us) 109)).cell? ⟨g, i, none⟩ = some (.int .i64 (f i)) := (World.cell?_alloc_lt _ _ _ hgl).trans (HC.out i hl)
      have hf := HF.out i hl
      have cu : (w.alloc (.cells (usA us) 109)).cell? ⟨w.heap.size, f i, none⟩ = some (.bool (us (f i))) := by rw [cells_at HB.out]; exact usA_at us _ hf
      generalize hx : f i = x at *
      generalize hww : w.alloc (.cells (usA us) 109) = ww at *
      cases hu : us x with
      | true =>
        rw [hu] at cu
        have hff : fitsF us f m = false := fitsF_false hl (by rw [hx]; exact hu)
        go_wp2_with fail
        go_ret
        exact ⟨by rw [hff]; rfl, hB.out⟩
      | false =>
        rw [hu] at cu
        go_wp2_with fail
        go_roundw
        case rel => exact ⟨i + 1, by omega, by simp, by simp [fitsF, H0.out, hx, hu], trivial⟩
        case measure => simp [intOf]; omega
    · have hie : i = m := by omega
      subst hie
      go_wp2_with fail
      go_ret
      exact ⟨by rw [H0.out]; rfl, hB.out⟩
set_option maxRecDepth 20000 in
set_option maxHeartbeats 1000000 in
theorem eqi_nil (a b : Option Addr) (c d : Nat) (w : World) :
    Calls Yba.prog 13 #[.slice a 0 c, .slice b 0 d] w fun e w' => e = .returned (.bool true) ∧ Below w.heap.size w w' := by
  go_enter Yba.func13, Yba.ntmps13
  go_wp2_with fail
  go_loopw [13] (fun iv wr => iv = .int .i64 0 ∧ wr = w) (fun iv _ => 0)
  case atStart => exact ⟨rfl, rfl⟩
  case round =>
    obtain ⟨rfl, rfl⟩ := hrel
    go_wp2_with fail
    go_ret
    exact ⟨rfl, Below.refl _ _⟩
set_option maxRecDepth 20000 in
set_option maxHeartbeats 1000000 in
theorem eqi_some (g1 g2 c1 c2 n : Nat) (z : Nat → Int) (w : World) (hn : n ≤ 2097152) (h1 : ∀ i, i < n → w.cell? ⟨g1, i, none⟩ = some (.int .i64 (z i))) (h2 : ∀ i, i < n → w.cell? ⟨g2, i, none⟩ = some (.int .i64 (z i))) :
    Calls Yba.prog 13 #[.slice (some ⟨g1, 0, none⟩) n c1, .slice (some ⟨g2, 0, none⟩) n c2] w fun e w' => e = .returned (.bool true) ∧ Below w.heap.size w w' := by
  go_enter Yba.func13, Yba.ntmps13
  go_wp2_with fail
  go_loopw [13] (fun iv wr => ∃ i : Nat, i ≤ n ∧ iv = .int .i64 i ∧ Below w.heap.size w wr) (fun iv _ => n - (intOf iv).toNat)
  case atStart => exact ⟨0, Nat.zero_le _, rfl, Below.refl _ _⟩
  case round =>
    obtain ⟨i, hi, rfl, L⟩ := hrel
    by_cases hl : i < n
    · have e1 := (World.cell?_of_block (a := ⟨g1, i, none⟩) (L.block g1 (lt_of_cell (h1 i hl)))).trans (h1 i hl)
      have e2 := (World.cell?_of_block (a := ⟨g2, i, none⟩) (L.block g2 (lt_of_cell (h2 i hl)))).trans (h2 i hl)
      have HL := hide L
      clear L
      go_wp2_with fail
      go_region
      all_goals go_wp2_with fail
      all_goals go_roundw
      case rel => exact ⟨i + 1, by omega, by simp, HL.out.drew⟩
      case measure => simp [intOf]; omega
    · have HL := hide L
      clear L
      go_wp2_with fail
      go_ret
      exact ⟨rfl, HL.out⟩
end Go.Proofs.Ybulkbfpk
