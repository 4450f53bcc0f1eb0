import Derived.Test.YbulkbfpkBuild
import Derived.Laws.OwnMore
namespace Go.Proofs.Ybulkbfpk
open Go.RowKit
theorem eql_nil (t e : TypeId) (h : Yba.prog.underlying t = some (.slice e)) (w : World) : (binOp .eql t (.slice none 0 0) (.slice none 0 0)).run Yba.prog w = .ok (.bool true) w := by
  simp only [binOp]
  simp [run_equal_slice_nil w t e none 0 0 h]
set_option maxRecDepth 20000 in
set_option maxHeartbeats 1000000 in
theorem azero_any (b o : Nat) (w : World) (h : ∀ j, j < 14 → w.cell? ⟨b, o + j, none⟩ = some ((zs[j]?).getD (.bool false))) :
    Calls Yba.prog 7 #[.pointer (some ⟨b, o, none⟩)] w fun e w' => e = .returned (.bool true) ∧ w' = w := by
  have c0 := h 0 (by decide)
  have c1 := h 1 (by decide)
  have c11 := h 11 (by decide)
  have c3 := h 3 (by decide)
  have c2 := h 2 (by decide)
  have c5 := h 5 (by decide)
  have c6 := h 6 (by decide)
  have c9 := h 9 (by decide)
  have c4 := h 4 (by decide)
  simp [zs] at c0 c1 c11 c3 c2 c5 c6 c9 c4
  have q24 := eql_nil 24 21 Yba.underlying24 w
  have q81 := eql_nil 81 123 Yba.underlying81 w
  clear h
  go_enter Yba.func7, Yba.ntmps7
  go_wp2_with fail
  go_ret
  exact ⟨rfl, rfl⟩
theorem own_slice {w : World} {B : Nat} {e : TypeId} {v : Value} {n : Nat} {xs : List Value} (h : w.ownsRow B e 1 v n xs) : (∃ c, v = .slice none 0 c ∧ n = 0) ∨ ∃ g cap, v = .slice (some ⟨g, 0, none⟩) n cap := by
  rcases h.2 with ⟨h, h0⟩ | ⟨g, cap, cur, h, _⟩
  · exact .inl ⟨0, h, h0⟩
  · exact .inr ⟨g, cap, h⟩
set_option maxRecDepth 20000 in
set_option maxHeartbeats 1000000 in
theorem equal_nil (a b : Option Addr) (c d : Nat) (w : World) :
    Calls Yba.prog 8 #[.slice a 0 c, .slice b 0 d] w fun e w' => e = .returned (.bool true) ∧ Below w.heap.size w w' := by
  go_enter Yba.func8, Yba.ntmps8
  go_wp2_with fail
  go_loopw [13] (fun iv wr => iv = .int .i64 0 ∧ wr = w) (fun iv _ => 0)
  case atStart => exact ⟨rfl, rfl⟩
  case round =>
    obtain ⟨rfl, rfl⟩ := hrel
    go_wp2_with fail
    go_ret
    exact ⟨rfl, Below.refl _ _⟩
set_option maxRecDepth 20000 in
set_option maxHeartbeats 1000000 in
theorem equal_some (g1 g2 c1 c2 n : Nat) (z : Nat → Int) (w : World) (hn : n ≤ 2097152) (h1 : ∀ i, i < n → w.cell? ⟨g1, i, none⟩ = some (.int .i32 (z i))) (h2 : ∀ i, i < n → w.cell? ⟨g2, i, none⟩ = some (.int .i32 (z i))) :
    Calls Yba.prog 8 #[.slice (some ⟨g1, 0, none⟩) n c1, .slice (some ⟨g2, 0, none⟩) n c2] w fun e w' => e = .returned (.bool true) ∧ Below w.heap.size w w' := by
  go_enter Yba.func8, Yba.ntmps8
  go_wp2_with fail
  go_loopw [13] (fun iv wr => ∃ i : Nat, i ≤ n ∧ iv = .int .i64 i ∧ Below w.heap.size w wr) (fun iv _ => n - (intOf iv).toNat)
  case atStart => exact ⟨0, Nat.zero_le _, rfl, Below.refl _ _⟩
  case round =>
    obtain ⟨i, hi, rfl, L⟩ := hrel
    by_cases hl : i < n
    · have e1 := (World.cell?_of_block (a := ⟨g1, i, none⟩) (L.block g1 (lt_of_cell (h1 i hl)))).trans (h1 i hl)
      have e2 := (World.cell?_of_block (a := ⟨g2, i, none⟩) (L.block g2 (lt_of_cell (h2 i hl)))).trans (h2 i hl)
      have HL := hide L
      clear L
      go_wp2_with fail
      go_region
      all_goals go_wp2_with fail
      all_goals go_roundw
      case rel => exact ⟨i + 1, by omega, by simp, HL.out.drew⟩
      case measure => simp [intOf]; omega
    · have HL := hide L
      clear L
      go_wp2_with fail
      go_ret
      exact ⟨rfl, HL.out⟩
/-- A list of int32s. -/
def Ints (xs : List Value) : Prop := ∀ u, u ∈ xs → ∃ z, u = .int .i32 z
theorem equal_any (xs : List Value) (B1 B2 : Nat) (v1 v2 : Value) (w : World) (hn : xs.length ≤ 2097152) (hx : Ints xs) (h1 : w.ownsRow B1 21 1 v1 xs.length xs) (h2 : w.ownsRow B2 21 1 v2 xs.length xs) :
    Calls Yba.prog 8 #[v1, v2] w fun e w' => e = .returned (.bool true) ∧ Below w.heap.size w w' := by
  have hz : ∃ z : Nat → Int, ∀ i, i < xs.length → xs[i]? = some (.int .i32 (z i)) := by
    refine ⟨fun i => match xs[i]? with | some (.int _ k) => k | _ => 0, fun i hi => ?_⟩
    have e := List.getElem?_eq_getElem hi
    obtain ⟨q, hq⟩ := hx xs[i] (List.getElem_mem hi)
    rw [hq] at e
    simp [e]
  obtain ⟨z, hz⟩ := hz
  by_cases h0 : xs.length = 0
  · have s1 := own_slice h1
    have s2 := own_slice h2
    have e1 : ∃ a c, v1 = .slice a 0 c := by
      rcases s1 with ⟨c, e, _⟩ | ⟨g, c, e⟩
      · exact ⟨_, _, e⟩
      · rw [h0] at e; exact ⟨_, _, e⟩
    have e2 : ∃ a c, v2 = .slice a 0 c := by
      rcases s2 with ⟨c, e, _⟩ | ⟨g, c, e⟩
      · exact ⟨_, _, e⟩
      · rw [h0] at e; exact ⟨_, _, e⟩
    obtain ⟨a, c, rfl⟩ := e1
    obtain ⟨b, d, rfl⟩ := e2
    exact equal_nil a b c d w
  · rcases own_slice h1 with ⟨c, e, h⟩ | ⟨g1, c1, e1⟩
    · exact absurd h h0
    · rcases own_slice h2 with ⟨c, e, h⟩ | ⟨g2, c2, e2⟩
      · exact absurd h h0
      · rw [e1] at h1 ⊢
        rw [e2] at h2 ⊢
        exact equal_some g1 g2 c1 c2 xs.length z w hn (fun i hi => (h1.cellAt i (by omega)).trans (hz i hi)) (fun i hi => (h2.cellAt i (by omega)).trans (hz i hi))
end Go.Proofs.Ybulkbfpk
