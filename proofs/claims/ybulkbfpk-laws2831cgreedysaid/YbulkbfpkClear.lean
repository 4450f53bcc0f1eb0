import Derived.Test.YbulkbfpkPut
namespace Go.Proofs.Ybulkbfpk
open Go.RowKit
def zs : List Value := [.slice none 0 0, .slice none 0 0, .int .i64 0, .int .i64 0, .int .i64 0, .int .i32 0, .int .i32 0, .int .i32 0, .int .i32 0, .int .i32 0, .bool false, .slice none 0 0, .int .i64 0, .slice none 0 0]
theorem info86 : (Yba.prog.info? 86).map (fun i => (i.zero, i.size, i.bytes)) = some (some (.agg zs.toArray), 14, 152) := by kernel_rfl
theorem info86_parts : ∃ i, Yba.prog.info? 86 = some i ∧ i.zero = some (.agg zs.toArray) ∧ i.size = 14 ∧ i.bytes = 152 := by
  have := info86
  cases h : Yba.prog.info? 86 with
  | none => rw [h] at this; cases this
  | some i => rw [h] at this; simp at this; exact ⟨i, rfl, this⟩
/-- The zero cells of m instants. -/
def zeros (m : Nat) : List Value := (Builtin.zeroCells zs.toArray m).toList
theorem zeros_len (m : Nat) : (zeros m).length = m * 14 := by
  simp [zeros, Builtin.zeroCells, zs]
theorem zs_at : ∀ j, j < 14 → zs.toArray[j]! = (zs[j]?).getD (.bool false) := by
  intro j hj
  match j, hj with
  | 0, _ | 1, _ | 2, _ | 3, _ | 4, _ | 5, _ | 6, _ | 7, _ | 8, _ | 9, _ | 10, _ | 11, _ | 12, _ | 13, _ => rfl
theorem zs_one : ∀ j, j < 14 → (zs.toArray[j]!).oneCell' = true := by
  intro j hj
  match j, hj with
  | 0, _ | 1, _ | 2, _ | 3, _ | 4, _ | 5, _ | 6, _ | 7, _ | 8, _ | 9, _ | 10, _ | 11, _ | 12, _ | 13, _ => rfl
theorem zeros_eq (m : Nat) : zeros m = (List.range (m * 14)).map fun i => zs.toArray[i % 14]! := by
  unfold zeros Builtin.zeroCells
  rw [Array.toList_map, Array.toList_range]
  rfl
theorem zeros_at (m i j : Nat) (hi : i < m) (hj : j < 14) (h : i * 14 + j < (zeros m).length) : (zeros m)[i * 14 + j] = (zs[j]?).getD (.bool false) := by
  rw [← zs_at j hj]
  have : (zeros m)[i * 14 + j]? = some (zs.toArray[j]!) := by
    rw [zeros_eq, List.getElem?_map, List.getElem?_range (by omega)]
    simp only [Option.map_some]
    rw [show (i * 14 + j) % 14 = j by omega]
  rw [List.getElem?_eq_getElem h] at this
  exact Option.some.inj this
theorem zeros_one (m : Nat) : ∀ v ∈ zeros m, v.oneCell' = true := by
  intro v hv
  rw [zeros_eq] at hv
  obtain ⟨i, _, rfl⟩ := List.mem_map.1 hv
  exact zs_one _ (Nat.mod_lt _ (by decide))
theorem run_clear (w : World) (ty : TypeId) (b o m c : Nat) (hc : ∀ j, j < m * 14 → (w.cell? ⟨b, o + j, none⟩).isSome = true) (hf : ∀ j, j < m * 14 → w.frozen? ⟨b, o + j, none⟩ = false) :
    (Builtin.clear_ #[36] ty #[.slice (some ⟨b, o, none⟩) m c]).run Yba.prog w = .ok (.tuple #[]) (w.setCells b o (zeros m)) := by
  have hst := run_storeCells_cells (P := Yba.prog) b o (zeros m) 0 w (by simpa [zeros_len] using hc) (by simpa [zeros_len] using hf) (zeros_one m)
  simp only [Nat.add_zero] at hst
  cases m with
  | zero => simp [Builtin.clear_, run_underlying Yba.underlying36, zeros, Builtin.zeroCells, World.setCells, Result.andThen]
  | succ m =>
    simp [Builtin.clear_, run_underlying Yba.underlying36]
    change (Sem.run Yba.prog (storeCells ⟨b, o, none⟩ (zeros (m + 1))) w).andThen (fun _ w' => Result.ok (Value.tuple #[]) w') = _
    rw [hst]
    rfl
end Go.Proofs.Ybulkbfpk
