import Derived.Test.YbulkbfpkCounts
import Derived.Laws.IdiomCopy
namespace Go.Proofs.Ybulkbfpk
open Go.RowKit
/-- Where the slices of the instants lie. -/
structure Ptrs where
  sp : Nat → Option Addr
  ep : Nat → Option Addr
  gp : Nat → Option Addr
namespace Inp
def s (I : Inp) (k : Nat) : Nat := (I.st k % 3).toNat
def e (I : Inp) (k : Nat) : Nat := (I.en k % 3).toNat
def ic (I : Inp) (P : Ptrs) (r : Int) (k : Nat) : Nat → Value
  | 0 => .slice (P.sp k) (I.s k) (I.s k)
  | 1 => .slice (P.ep k) (I.e k) (I.e k)
  | 2 => .int .i64 (I.fre k)
  | 3 => .int .i64 r
  | 4 => .int .i64 0
  | 5 => .int .i32 (I.opn k)
  | 6 => .int .i32 (I.dev k)
  | 7 => .int .i32 0
  | 8 => .int .i32 0
  | 9 => .int .i32 (I.cor k)
  | 10 => .bool false
  | 11 => .slice (P.gp k) (I.sm k) (I.sm k)
  | 12 => .int .i64 0
  | _ => .slice none 0 0
def src (I : Inp) (k i : Nat) : Nat := if i < I.K k then I.kp k i else i
def rr (I : Inp) (k i : Nat) : Int := if i < I.K k then I.rm k i else I.rom i
/-- A cursor behind k instants. -/
def cu (I : Inp) (c0 : Nat → Int) (k i : Nat) : Int := if 0 ≤ c0 i ∧ c0 i < k then I.nx (c0 i).toNat else c0 i
theorem src_keep {I : Inp} {k : Nat} (h : I.keep k = true) : I.src (k + 1) = upd (I.src k) (I.K k) k := by
  obtain ⟨h1, h2, _, _⟩ := K_keep h
  funext i
  simp only [src, h1, h2, upd]
  by_cases e : i = I.K k
  · simp [e]
  · by_cases e2 : i < I.K k
    · simp [e, e2, Nat.lt_succ_of_lt e2]
    · have : ¬ i < I.K k + 1 := by omega
      simp [e, e2, this]
theorem rr_keep {I : Inp} {k : Nat} (h : I.keep k = true) : I.rr (k + 1) = upd (I.rr k) (I.K k) (I.rom k) := by
  obtain ⟨h1, _, h2, _⟩ := K_keep h
  funext i
  simp only [rr, h1, h2, upd]
  by_cases e : i = I.K k
  · simp [e]
  · by_cases e2 : i < I.K k
    · simp [e, e2, Nat.lt_succ_of_lt e2]
    · have : ¬ i < I.K k + 1 := by omega
      simp [e, e2, this]
theorem src_skip {I : Inp} {k : Nat} (h : I.keep k = false) : I.src (k + 1) = I.src k := by
  obtain ⟨h1, h2, _, _⟩ := K_skip h
  funext i
  simp only [src, h1, h2]
theorem rr_skip {I : Inp} {k : Nat} (hk : 0 < k) (h : I.keep k = false) : I.rr (k + 1) = upd (I.rr k) (I.K k - 1) (min (I.rr k (I.K k - 1)) (I.rom k)) := by
  obtain ⟨h1, _, h2, _⟩ := K_skip h
  have hp := I.K_pos k hk
  funext i
  simp only [rr, h1, h2, upd]
  have hlt : I.K k - 1 < I.K k := by omega
  by_cases e : i = I.K k - 1
  · simp [e, hlt]
  · simp [e]
theorem src_self {I : Inp} (k : Nat) : I.src k k = k := by
  have := I.K_le k
  simp [src, show ¬ k < I.K k by omega]
theorem rr_self {I : Inp} (k : Nat) : I.rr k k = I.rom k := by
  have := I.K_le k
  simp [rr, show ¬ k < I.K k by omega]
end Inp
structure Ids where
  TL : Nat
  AT : Nat
  IN : Nat
  CU : Nat
  B : Nat
  c : Nat
def Ids.S (D : Ids) : List Nat := [D.TL, D.AT, D.IN, D.CU]
structure Ids.Ok (D : Ids) : Prop where
  a1 : D.TL ≠ D.AT
  a2 : D.TL ≠ D.IN
  a3 : D.TL ≠ D.CU
  a4 : D.AT ≠ D.IN
  a5 : D.AT ≠ D.CU
  a6 : D.IN ≠ D.CU
  b1 : D.TL < D.B
  b2 : D.AT < D.B
  b3 : D.IN < D.B
  b4 : D.CU < D.B
/-- The sightings of instant k lie where no one writes. -/
def Sg (I : Inp) (P : Ptrs) (D : Ids) (w : World) (k : Nat) : Prop :=
  (P.gp k = none ∧ I.sm k = 0) ∨ ∃ GB, P.gp k = some ⟨GB, 0, none⟩ ∧ GB < D.B ∧ GB ∉ D.S ∧ ∀ j, j < I.sm k → w.cell? ⟨GB, j * 4, none⟩ = some (.int .i64 0) ∧ w.cell? ⟨GB, j * 4 + 1, none⟩ = some (.int .i64 0) ∧ w.cell? ⟨GB, j * 4 + 2, none⟩ = some (.int .i32 0) ∧ w.cell? ⟨GB, j * 4 + 3, none⟩ = some (.int .i32 (I.sv k j))
theorem Sg.but {I : Inp} {P : Ptrs} {D : Ids} {w w' : World} {k : Nat} (h : Sg I P D w k) (hb : ∀ b, b < D.B → b ∉ D.S → w'.heap[b]? = w.heap[b]?) : Sg I P D w' k := by
  rcases h with h | ⟨GB, e, hB, hS, hc⟩
  · exact .inl h
  · refine .inr ⟨GB, e, hB, hS, fun j hj => ?_⟩
    have hq : ∀ o, w'.cell? ⟨GB, o, none⟩ = w.cell? ⟨GB, o, none⟩ := fun o => World.cell?_of_block (a := ⟨GB, o, none⟩) (hb GB hB hS)
    rw [hq, hq, hq, hq]
    exact hc j hj
theorem Sg.sights {I : Inp} {P : Ptrs} {D : Ids} {w : World} {k : Nat} (h : Sg I P D w k) : Sights D.B D.TL (.slice (P.gp k) (I.sm k) (I.sm k)) (I.sm k) (I.sv k) w := by
  rcases h with ⟨e1, e2⟩ | ⟨GB, e, hB, hS, hc⟩
  · exact .inl ⟨by rw [e1, e2], e2⟩
  · exact .inr ⟨GB, _, by rw [e], hB, fun e => hS (by simp [Ids.S, e]), hc⟩
structure Tl (I : Inp) (P : Ptrs) (D : Ids) (src : Nat → Nat) (rr : Nat → Int) (C : Nat → Int) (X : Nat → List Value) (w : World) : Prop where
  inst : ∀ i, i < I.n → ∀ j, j < 14 → w.cell? ⟨D.IN, i * 14 + j, none⟩ = some (I.ic P (rr i) (src i) j)
  atms : ∀ i, i < I.n → w.cell? ⟨D.AT, i, none⟩ = some (.int .i64 (I.atm (src i)))
  curs : ∀ i, i < D.c → w.cell? ⟨D.CU, i * 7 + 1, none⟩ = some (.int .i64 (C i))
  h6 : w.cell? ⟨D.TL, 6, none⟩ = some (.slice (some ⟨D.AT, 0, none⟩) I.n I.n)
  h7 : w.cell? ⟨D.TL, 7, none⟩ = some (.slice (some ⟨D.IN, 0, none⟩) I.n I.n)
  h8 : w.cell? ⟨D.TL, 8, none⟩ = some (.slice (some ⟨D.CU, 0, none⟩) D.c D.c)
  kd : w.cell? ⟨D.TL, 74, none⟩ = some (.bool I.kd)
  fAT : ∀ o, w.frozen? ⟨D.AT, o, none⟩ = false
  fIN : ∀ o, w.frozen? ⟨D.IN, o, none⟩ = false
  fCU : ∀ o, w.frozen? ⟨D.CU, o, none⟩ = false
  ts : TS D.TL D.B X w
  sg : ∀ k, k < I.n → Sg I P D w k
section
variable {I : Inp} {P : Ptrs} {D : Ids} {src : Nat → Nat} {rr : Nat → Int} {C : Nat → Int} {X Y : Nat → List Value} {w w' : World}
/-- The spare rows turned; of the blocks below B nothing else did. -/
theorem Tl.fra (h : Tl I P D src rr C X w) (ok : D.Ok) (t : TS D.TL D.B Y w') (f : Fra D.TL D.B w w') : Tl I P D src rr C Y w' := by
  have hb : ∀ b, b < D.B → b ≠ D.TL → ∀ o, w'.cell? ⟨b, o, none⟩ = w.cell? ⟨b, o, none⟩ ∧ w'.frozen? ⟨b, o, none⟩ = w.frozen? ⟨b, o, none⟩ := fun b h1 h2 o => ⟨World.cell?_of_block (a := ⟨b, o, none⟩) (f.block b h1 h2), World.frozen?_of_block (a := ⟨b, o, none⟩) (f.block b h1 h2)⟩
  refine ⟨fun i hi j hj => ?_, fun i hi => ?_, fun i hi => ?_, ?_, ?_, ?_, ?_, fun o => ?_, fun o => ?_, fun o => ?_, t, fun k hk => (h.sg k hk).but fun b h1 h2 => f.block b h1 fun e => h2 (by simp [Ids.S, e])⟩
  · rw [(hb _ ok.b3 ok.a2.symm _).1]; exact h.inst i hi j hj
  · rw [(hb _ ok.b2 ok.a1.symm _).1]; exact h.atms i hi
  · rw [(hb _ ok.b4 ok.a3.symm _).1]; exact h.curs i hi
  · rw [f.cell 6 (by decide)]; exact h.h6
  · rw [f.cell 7 (by decide)]; exact h.h7
  · rw [f.cell 8 (by decide)]; exact h.h8
  · rw [f.cell 74 (by decide)]; exact h.kd
  · rw [(hb _ ok.b2 ok.a1.symm _).2]; exact h.fAT o
  · rw [(hb _ ok.b3 ok.a2.symm _).2]; exact h.fIN o
  · rw [(hb _ ok.b4 ok.a3.symm _).2]; exact h.fCU o
theorem Tl.alloc (h : Tl I P D src rr C X w) (ok : D.Ok) (o : Obj) : Tl I P D src rr C X (w.alloc o) :=
  h.fra ok (h.ts.alloc o) ((Fra.refl _ _ _).alloc h.ts.hB ok.b1 o)
theorem Tl.drew (h : Tl I P D src rr C X w) (ok : D.Ok) : Tl I P D src rr C X w.drew :=
  h.fra ok h.ts.drew (Fra.refl _ _ _).drew
/-- The spare rows lie at B or above it. -/
theorem TS.keep {TL B : Nat} (h : TS TL B X w) (hs : w.heap.size ≤ w'.heap.size) (hb : ∀ k, B ≤ k → k < w.heap.size → w'.heap[k]? = w.heap[k]?) (ht : w'.heap[TL]? = w.heap[TL]?) : TS TL B X w' := by
  obtain ⟨vs, hv, hf⟩ := h.ex
  have hB := h.hB
  refine ⟨⟨vs, fun i hi => ⟨(World.cell?_of_block (a := ⟨TL, pos i, none⟩) ht).trans (hv i hi).1, own_kept (hv i hi).2 fun k hk hBk hlk => hb k hBk hlk⟩, hf⟩, fun q => ?_, h.tl, by omega⟩
  rw [World.frozen?_of_block (a := ⟨TL, q, none⟩) ht]
  exact h.fz q
/-- Only cells of AT, IN, CU turned. -/
theorem Tl.put {src' : Nat → Nat} {rr' : Nat → Int} {C' : Nat → Int} (h : Tl I P D src rr C X w) (ok : D.Ok) (hs : w.heap.size ≤ w'.heap.size) (hb : ∀ b, b < w.heap.size → b ≠ D.AT → b ≠ D.IN → b ≠ D.CU → w'.heap[b]? = w.heap[b]?) (hf : ∀ b o, w'.frozen? ⟨b, o, none⟩ = w.frozen? ⟨b, o, none⟩)
    (inst : ∀ i, i < I.n → ∀ j, j < 14 → w'.cell? ⟨D.IN, i * 14 + j, none⟩ = some (I.ic P (rr' i) (src' i) j)) (atms : ∀ i, i < I.n → w'.cell? ⟨D.AT, i, none⟩ = some (.int .i64 (I.atm (src' i)))) (curs : ∀ i, i < D.c → w'.cell? ⟨D.CU, i * 7 + 1, none⟩ = some (.int .i64 (C' i))) : Tl I P D src' rr' C' X w' := by
  have hB := h.ts.hB
  have hT := hb D.TL (by have := ok.b1; omega) ok.a1 ok.a2 ok.a3
  have hc : ∀ o, w'.cell? ⟨D.TL, o, none⟩ = w.cell? ⟨D.TL, o, none⟩ := fun o => World.cell?_of_block (a := ⟨D.TL, o, none⟩) hT
  refine ⟨inst, atms, curs, (hc 6).trans h.h6, (hc 7).trans h.h7, (hc 8).trans h.h8, (hc 74).trans h.kd, fun o => (hf _ o).trans (h.fAT o), fun o => (hf _ o).trans (h.fIN o), fun o => (hf _ o).trans (h.fCU o), h.ts.keep hs (fun k h1 h2 => hb k h2 ?_ ?_ ?_) hT, fun k hk => (h.sg k hk).but fun b h1 h2 => hb b (by omega) (fun e => h2 (by simp [Ids.S, e])) (fun e => h2 (by simp [Ids.S, e])) (fun e => h2 (by simp [Ids.S, e]))⟩
  · have := ok.b2; omega
  · have := ok.b3; omega
  · have := ok.b4; omega
end
theorem but_fra {D : Ids} {a b c : World} (h : But D.S a b) (hB : a.heap.size ≤ D.B) (f : Fra D.TL D.B b c) : But D.S a c :=
  ⟨f.os.trans h.os, f.tape.trans h.tape, f.output.trans h.output, Nat.le_trans h.size f.size, fun k hk hs => (f.block k (by omega) (fun e => hs (by simp [Ids.S, e]))).trans (h.block k hk hs)⟩
end Go.Proofs.Ybulkbfpk
