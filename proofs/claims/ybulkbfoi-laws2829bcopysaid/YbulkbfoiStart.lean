import Derived.Test.YbulkbfoiEnv
import Derived.Laws.MakeOwn
namespace Go.Proofs.Ybulkbfoi
open Go.RowKit
theorem made_one (z : Value) (hz : z.cells = #[z]) (n i : Nat) (hi : i < n) : (madeCells z.cells (n * 1))[i]? = some z := by
  rw [hz]
  simp [madeCells, hi, Nat.mod_one]
theorem info31 : (Yba.prog.info? 31).map (fun i => (i.zero, i.size, i.bytes)) = some (some (.pointer none), 1, 8) := by kernel_rfl
theorem info31_parts : ∃ i, Yba.prog.info? 31 = some i ∧ i.zero = some (.pointer none) ∧ i.size = 1 ∧ i.bytes = 8 := by
  have := info31
  cases h : Yba.prog.info? 31 with
  | none => rw [h] at this; cases this
  | some i => rw [h] at this; simp at this; exact ⟨i, rfl, this⟩
theorem info55 : (Yba.prog.info? 55).map (fun i => (i.zero, i.size, i.bytes)) = some (some (.agg #[.int .u64 0, .pointer none]), 2, 16) := by kernel_rfl
theorem info55_parts : ∃ i, Yba.prog.info? 55 = some i ∧ i.zero = some (.agg #[.int .u64 0, .pointer none]) ∧ i.size = 2 ∧ i.bytes = 16 := by
  have := info55
  cases h : Yba.prog.info? 55 with
  | none => rw [h] at this; cases this
  | some i => rw [h] at this; simp at this; exact ⟨i, rfl, this⟩
theorem make30 (n : Nat) (hn : n ≤ 8) (w : World) : ∃ C : Array Value, C.size = n ∧ (∀ i, i < n → C[i]? = some (.pointer none)) ∧ (Instr.makeSlice 30 (.int .i64 n) (.int .i64 n)).run Yba.prog w = .ok (.slice (some ⟨w.heap.size, 0, none⟩) n n) (w.alloc (.cells C 31)) := by
  obtain ⟨i, h1, h2, h3, h4⟩ := info31_parts
  have := run_make (P := Yba.prog) w 30 31 i _ Yba.underlying30 h1 h2 .i64 .i64 n n (by omega) (by omega) (by rw [h4]; omega) (by omega)
  rw [h3] at this
  refine ⟨madeCells (Value.pointer none).cells (n * 1), by simp [madeCells], fun i hi => made_one _ rfl n i hi, by simpa using this⟩
theorem make23 (n : Nat) (hn : n ≤ 8) (w : World) : ∃ C : Array Value, C.size = n ∧ (∀ i, i < n → C[i]? = some (.int .u8 0)) ∧ (Instr.makeSlice 23 (.int .i64 n) (.int .i64 n)).run Yba.prog w = .ok (.slice (some ⟨w.heap.size, 0, none⟩) n n) (w.alloc (.cells C 5)) := by
  obtain ⟨i, h1, h2, h3, h4⟩ := info5_parts
  have := run_make (P := Yba.prog) w 23 5 i _ Yba.underlying23 h1 h2 .i64 .i64 n n (by omega) (by omega) (by rw [h4]; omega) (by omega)
  rw [h3] at this
  refine ⟨madeCells (Value.int .u8 0).cells (n * 1), by simp [madeCells], fun i hi => made_one _ rfl n i hi, by simpa using this⟩
theorem made55 : ∀ i : Fin 32, (madeCells #[Value.int .u64 0, .pointer none] 64)[i.val * 2]? = some (.int .u64 0) ∧ (madeCells #[Value.int .u64 0, .pointer none] 64)[i.val * 2 + 1]? = some (.pointer none) := by
  intro i
  have h1 : i.val * 2 < 64 := by omega
  have h2 : i.val * 2 + 1 < 64 := by omega
  have m1 : i.val * 2 % 2 = 0 := by omega
  have m2 : (i.val * 2 + 1) % 2 = 1 := by omega
  constructor
  · simp [madeCells, h1, m1]
  · simp [madeCells, h2, m2]
theorem make26 (w : World) : ∃ C : Array Value, C.size = 64 ∧ (∀ i, i < 32 → C[i * 2]? = some (.int .u64 0)) ∧ (∀ i, i < 32 → C[i * 2 + 1]? = some (.pointer none)) ∧ (Instr.makeSlice 26 (.int .i64 32) (.int .i64 32)).run Yba.prog w = .ok (.slice (some ⟨w.heap.size, 0, none⟩) 32 32) (w.alloc (.cells C 55)) := by
  obtain ⟨i, h1, h2, h3, h4⟩ := info55_parts
  have := run_make (P := Yba.prog) w 26 55 i _ Yba.underlying26 h1 h2 .i64 .i64 32 32 (by omega) (by omega) (by rw [h4]; omega) (by omega)
  rw [h3] at this
  exact ⟨madeCells #[.int .u64 0, .pointer none] 64, by simp [madeCells], fun i hi => (made55 ⟨i, hi⟩).1, fun i hi => (made55 ⟨i, hi⟩).2, this⟩
theorem mem_start {w wx : World} {n : Nat} (ids md : Nat → Int) (ds : List Int) {T PT C D : Array Value} (hb : Below w.heap.size w wx) (hsz : wx.heap.size = w.heap.size) (hT : T.size = 64) (hT0 : ∀ i, i < 32 → T[i * 2]? = some (.int .u64 0)) (hT1 : ∀ i, i < 32 → T[i * 2 + 1]? = some (.pointer none))
    (hP : PT.size = 68) (hP0 : PT[0]? = some (.slice (some ⟨w.heap.size, 0, none⟩) 32 32)) (hP1 : PT[1]? = some (.int .i64 5)) (hC : C.size = n) (hC0 : ∀ i, i < n → C[i]? = some (.pointer none)) (hD0 : ∀ i, i < n → D[i]? = some (.int .u8 0)) :
    Mem w.heap.size w n ids md ds 0 (fun _ => 0) (fun _ => none) (fun _ => none) (fun _ => 0) ((((wx.alloc (.cells T 55)).alloc (.cells PT 29)).alloc (.cells C 31)).alloc (.cells D 5)) := by
  have s1 : (wx.alloc (.cells T 55)).heap.size = w.heap.size + 1 := by simp [hsz]
  have s2 : ((wx.alloc (.cells T 55)).alloc (.cells PT 29)).heap.size = w.heap.size + 2 := by simp [hsz]
  have s3 : (((wx.alloc (.cells T 55)).alloc (.cells PT 29)).alloc (.cells C 31)).heap.size = w.heap.size + 3 := by simp [hsz]
  have b4 : ((((wx.alloc (.cells T 55)).alloc (.cells PT 29)).alloc (.cells C 31)).alloc (.cells D 5)).heap[w.heap.size + 3]? = some (.cells D 5) := by rw [← s3]; exact newBlock _ _
  have b3 : ((((wx.alloc (.cells T 55)).alloc (.cells PT 29)).alloc (.cells C 31)).alloc (.cells D 5)).heap[w.heap.size + 2]? = some (.cells C 31) := by
    rw [Below.heap_alloc _ _ _ (by omega), ← s2]; exact newBlock _ _
  have b2 : ((((wx.alloc (.cells T 55)).alloc (.cells PT 29)).alloc (.cells C 31)).alloc (.cells D 5)).heap[w.heap.size + 1]? = some (.cells PT 29) := by
    rw [Below.heap_alloc _ _ _ (by omega), Below.heap_alloc _ _ _ (by omega), ← s1]; exact newBlock _ _
  have b1 : ((((wx.alloc (.cells T 55)).alloc (.cells PT 29)).alloc (.cells C 31)).alloc (.cells D 5)).heap[w.heap.size]? = some (.cells T 55) := by
    rw [Below.heap_alloc _ _ _ (by omega), Below.heap_alloc _ _ _ (by omega), Below.heap_alloc _ _ _ (by omega), ← hsz]; exact newBlock _ _
  have hbel : Below w.heap.size w ((((wx.alloc (.cells T 55)).alloc (.cells PT 29)).alloc (.cells C 31)).alloc (.cells D 5)) := (((hb.alloc (by omega) _).alloc (by omega) _).alloc (by omega) _).alloc (by omega) _
  exact ⟨hbel, by simp [hsz], by simp [World.shape?, b2, hP], (cells_at b2 0).trans hP0, (cells_at b2 1).trans hP1, by simp [World.shape?, b1, hT], fun i hi => (cells_at b1 _).trans (hT0 i hi), fun i hi => (cells_at b1 _).trans (hT1 i hi), frozen_at b1, by simp [World.shape?, b3, hC],
    fun i hi => (cells_at b3 _).trans (hC0 i hi), frozen_at b3, fun i hi => (cells_at b4 _).trans (hD0 i hi), frozen_at b4, fun i _ a ha => (by cases ha), fun _ _ _ _ _ h => absurd rfl h, Tab.start _ _, fun i hi => by omega, fun i _ => by simp⟩
theorem wpList_make_eq {P : Program} {w w' : World} {ops : Array Oper} {rest : List Oper} {o : Oper} {a : Act} {Q : Exit → Act → World → Prop} (hgd : o.guard = none) (t : TypeId) (l c : Operand) (ho : o.op = .makeSlice t l c) (v : Value)
    (hrun : (Instr.makeSlice t (a.eval l) (a.eval c)).run P w = .ok v w') (h : wpList P ops Q rest (a.put o.dst v) w') : wpList P ops Q (o :: rest) a w := by
  refine wpList_plain hgd fun K hK => ?_
  unfold Oper.wp
  simp [execOp, ho, hrun, Result.andThen]
  exact hK _ _ h
theorem wpList_build_vs {P : Program} {w : World} {ops : Array Oper} {rest : List Oper} {o : Oper} {a : Act} {Q : Exit → Act → World → Prop} (hgd : o.guard = none) (t : TypeId) (parts : Array (Nat × Operand)) (ho : o.op = .build t parts) (Z : Array Value) (vs : List (Nat × Value))
    (hv : parts.toList.map (fun p => (p.1, a.eval p.2)) = vs) (hZ : P.built t vs = some Z) (h : wpList P ops Q rest (a.put o.dst (.agg Z)) w) : wpList P ops Q (o :: rest) a w :=
  wpList_build_at hgd t parts ho Z (by rw [Array.toList_map, ← hZ, ← hv]) h
theorem built29_ (N : Nat) : (Yba.prog.built 29 [(0, .slice (some ⟨N, 0, none⟩) 32 32), (1, .int .i64 5)]).map (fun F => (F.size, F[0]?, F[1]?)) = some (68, some (.slice (some ⟨N, 0, none⟩) 32 32), some (.int .i64 5)) := by kernel_rfl
theorem built29 (N : Nat) : ∃ F, Yba.prog.built 29 [(0, .slice (some ⟨N, 0, none⟩) 32 32), (1, .int .i64 5)] = some F ∧ F.size = 68 ∧ F[0]? = some (.slice (some ⟨N, 0, none⟩) 32 32) ∧ F[1]? = some (.int .i64 5) := by
  have := built29_ N
  cases h : Yba.prog.built 29 [(0, .slice (some ⟨N, 0, none⟩) 32 32), (1, .int .i64 5)] with
  | none => rw [h] at this; cases this
  | some i => rw [h] at this; simp at this; exact ⟨i, rfl, this⟩
end Go.Proofs.Ybulkbfoi
