import Derived.Test.YbulkbfpkCompact
import Derived.Laws.MakeOwn
namespace Go.Proofs.Ybulkbfpk
open Go.RowKit
theorem made_at (z : Array Value) (n k j : Nat) (hk : k < n) (hj : j < z.size) : (madeCells z (n * z.size))[k * z.size + j]? = z[j]? := by
  have h1 : k * z.size + j < n * z.size := by
    have : (k + 1) * z.size ≤ n * z.size := Nat.mul_le_mul_right _ hk
    rw [Nat.succ_mul] at this
    omega
  have h2 : (k * z.size + j) % z.size = j := by
    rw [Nat.add_comm, Nat.add_mul_mod_self_right, Nat.mod_eq_of_lt hj]
  simp [madeCells, h1, h2, hj]
theorem make_gen {t e : TypeId} {i : TypeInfo} {z : Value} (ht : Yba.prog.underlying t = some (.slice e)) (hi : Yba.prog.info? e = some i) (hz : i.zero = some z) (hs : i.size = z.cells.size) (n : Int) (h0 : 0 ≤ n) (hb : (i.bytes : Int) * n ≤ 281474976710656) (h63 : n ≤ 9223372036854775807) (w : World) :
    ∃ C : Array Value, C.size = n.toNat * z.cells.size ∧ (∀ k, k < n.toNat → ∀ j, j < z.cells.size → C[k * z.cells.size + j]? = z.cells[j]?) ∧ (Instr.makeSlice t (.int .i64 n) (.int .i64 n)).run Yba.prog w = .ok (.slice (some ⟨w.heap.size, 0, none⟩) n.toNat n.toNat) (w.alloc (.cells C e)) := by
  have := run_make (P := Yba.prog) w t e i z ht hi hz .i64 .i64 n n h0 (Int.le_refl _) hb h63
  rw [hs] at this
  exact ⟨madeCells z.cells (n.toNat * z.cells.size), by simp [madeCells], fun k hk j hj => made_at _ _ _ _ hk hj, this⟩
theorem info_of {t : TypeId} {z : Value} {s b : Nat} (h : (Yba.prog.info? t).map (fun i => (i.zero, i.size, i.bytes)) = some (some z, s, b)) : ∃ i, Yba.prog.info? t = some i ∧ i.zero = some z ∧ i.size = s ∧ i.bytes = b := by
  cases h1 : Yba.prog.info? t with
  | none => rw [h1] at h; cases h
  | some i => rw [h1] at h; simp at h; exact ⟨i, rfl, h⟩
theorem make33 (n : Nat) (hn : n ≤ 1024) (w : World) : ∃ C : Array Value, (∀ k, k < n → C[k]? = some (.int .i64 0)) ∧ (Instr.makeSlice 33 (.int .i64 n) (.int .i64 n)).run Yba.prog w = .ok (.slice (some ⟨w.heap.size, 0, none⟩) n n) (w.alloc (.cells C 2)) := by
  obtain ⟨i, h1, h2, h3, h4⟩ := info_of (t := 2) (z := .int .i64 0) (s := 1) (b := 8) (by kernel_rfl)
  obtain ⟨C, _, c2, c3⟩ := make_gen Yba.underlying33 h1 h2 h3 n (by omega) (by rw [h4]; omega) (by omega) w
  exact ⟨C, fun k hk => by simpa [Value.cells] using c2 k (by simpa using hk) 0 (by decide), by simpa using c3⟩
theorem make36 (n : Nat) (hn : n ≤ 1024) (w : World) : ∃ C : Array Value, (∀ k, k < n → ∀ j, j < 14 → C[k * 14 + j]? = some ((zs[j]?).getD (.bool false))) ∧ (Instr.makeSlice 36 (.int .i64 n) (.int .i64 n)).run Yba.prog w = .ok (.slice (some ⟨w.heap.size, 0, none⟩) n n) (w.alloc (.cells C 86)) := by
  obtain ⟨i, h1, h2, h3, h4⟩ := info86_parts
  obtain ⟨C, _, c2, c3⟩ := make_gen Yba.underlying36 h1 h2 h3 n (by omega) (by rw [h4]; omega) (by omega) w
  refine ⟨C, fun k hk j hj => ?_, by simpa using c3⟩
  refine (c2 k (by simpa using hk) j hj).trans ?_
  match j, hj with
  | 0, _ | 1, _ | 2, _ | 3, _ | 4, _ | 5, _ | 6, _ | 7, _ | 8, _ | 9, _ | 10, _ | 11, _ | 12, _ | 13, _ => rfl
theorem make24 (l : Int) (h0 : 0 ≤ l) (hl : l ≤ 1024) (w : World) : ∃ C : Array Value, (Instr.makeSlice 24 (.int .i64 l) (.int .i64 l)).run Yba.prog w = .ok (.slice (some ⟨w.heap.size, 0, none⟩) l.toNat l.toNat) (w.alloc (.cells C 21)) := by
  obtain ⟨i, h1, h2, h3, h4⟩ := info_of (t := 21) (z := .int .i32 0) (s := 1) (b := 4) (by kernel_rfl)
  obtain ⟨C, _, c2, c3⟩ := make_gen Yba.underlying24 h1 h2 h3 l h0 (by rw [h4]; omega) (by omega) w
  exact ⟨C, c3⟩
theorem make81 (n : Nat) (hn : n ≤ 1024) (w : World) : ∃ C : Array Value, (∀ k, k < n → C[k * 4]? = some (.int .i64 0) ∧ C[k * 4 + 1]? = some (.int .i64 0) ∧ C[k * 4 + 2]? = some (.int .i32 0) ∧ C[k * 4 + 3]? = some (.int .i32 0)) ∧ (Instr.makeSlice 81 (.int .i64 n) (.int .i64 n)).run Yba.prog w = .ok (.slice (some ⟨w.heap.size, 0, none⟩) n n) (w.alloc (.cells C 123)) := by
  obtain ⟨i, h1, h2, h3, h4⟩ := info_of (t := 123) (z := .agg #[.int .i64 0, .int .i64 0, .int .i32 0, .int .i32 0]) (s := 4) (b := 24) (by kernel_rfl)
  obtain ⟨C, _, c2, c3⟩ := make_gen Yba.underlying81 h1 h2 h3 n (by omega) (by rw [h4]; omega) (by omega) w
  refine ⟨C, fun k hk => ?_, by simpa using c3⟩
  have h := c2 k (by simpa using hk)
  exact ⟨h 0 (by decide), h 1 (by decide), h 2 (by decide), h 3 (by decide)⟩
theorem make37 (n : Nat) (hn : n ≤ 1024) (w : World) : ∃ C : Array Value, (∀ k, k < n → C[k * 7 + 1]? = some (.int .i64 0)) ∧ (Instr.makeSlice 37 (.int .i64 n) (.int .i64 n)).run Yba.prog w = .ok (.slice (some ⟨w.heap.size, 0, none⟩) n n) (w.alloc (.cells C 89)) := by
  obtain ⟨i, h1, h2, h3, h4⟩ := info_of (t := 89) (z := .agg #[.nilIface, .int .i64 0, .slice none 0 0, .nilIface, .nilIface, .int .i64 0, .bool false]) (s := 7) (b := 96) (by kernel_rfl)
  obtain ⟨C, _, c2, c3⟩ := make_gen Yba.underlying37 h1 h2 h3 n (by omega) (by rw [h4]; omega) (by omega) w
  exact ⟨C, fun k hk => c2 k (by simpa using hk) 1 (by decide), by simpa using c3⟩
theorem make23 (n : Nat) (hn : n ≤ 1024) (w : World) : ∃ C : Array Value, C.size = n ∧ (∀ k, k < n → C[k]? = some (.int .i64 0)) ∧ (Instr.makeSlice 23 (.int .i64 n) (.int .i64 n)).run Yba.prog w = .ok (.slice (some ⟨w.heap.size, 0, none⟩) n n) (w.alloc (.cells C 3)) := by
  obtain ⟨i, h1, h2, h3, h4⟩ := info_of (t := 3) (z := .int .i64 0) (s := 1) (b := 8) (by kernel_rfl)
  obtain ⟨C, c1, c2, c3⟩ := make_gen Yba.underlying23 h1 h2 h3 n (by omega) (by rw [h4]; omega) (by omega) w
  exact ⟨C, by simpa [Value.cells] using c1, fun k hk => by simpa [Value.cells] using c2 k (by simpa using hk) 0 (by decide), by simpa using c3⟩
theorem wpList_make_eq {P : Program} {w w' : World} {ops : Array Oper} {rest : List Oper} {o : Oper} {a : Act} {Q : Exit → Act → World → Prop} (hgd : o.guard = none) (t : TypeId) (l c : Operand) (ho : o.op = .makeSlice t l c) (v : Value)
    (hrun : (Instr.makeSlice t (a.eval l) (a.eval c)).run P w = .ok v w') (h : wpList P ops Q rest (a.put o.dst v) w') : wpList P ops Q (o :: rest) a w := by
  refine wpList_plain hgd fun K hK => ?_
  unfold Oper.wp
  simp [execOp, ho, hrun, Result.andThen]
  exact hK _ _ h
theorem built79_ (kd : Bool) : (Yba.prog.built 79 [(27, .bool kd)]).map (fun F => (F.size, F[6]?, F[7]?, F[8]?, F[74]?, F[29]?, F[71]?, F[96]?, F[53]?)) = some (118, some (.slice none 0 0), some (.slice none 0 0), some (.slice none 0 0), some (.bool kd), some (.slice none 0 0), some (.slice none 0 0), some (.slice none 0 0), some (.slice none 0 0)) := by
  cases kd <;> kernel_rfl
theorem built79 (kd : Bool) : ∃ F, Yba.prog.built 79 [(27, .bool kd)] = some F ∧ F.size = 118 ∧ F[6]? = some (.slice none 0 0) ∧ F[7]? = some (.slice none 0 0) ∧ F[8]? = some (.slice none 0 0) ∧ F[74]? = some (.bool kd) ∧ F[29]? = some (.slice none 0 0) ∧ F[71]? = some (.slice none 0 0) ∧ F[96]? = some (.slice none 0 0) ∧ F[53]? = some (.slice none 0 0) := by
  have h := built79_ kd
  cases h1 : Yba.prog.built 79 [(27, .bool kd)] with
  | none => rw [h1] at h; cases h
  | some F => rw [h1] at h; simp only [Option.map_some, Option.some.injEq, Prod.mk.injEq] at h; exact ⟨F, rfl, h⟩
end Go.Proofs.Ybulkbfpk
