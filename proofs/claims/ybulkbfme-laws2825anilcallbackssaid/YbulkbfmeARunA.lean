import Derived.Test.YbulkbfmeAPublish
import Derived.Deep.RegionHeld3
namespace Go.Proofs.Ybulkbfme
open Go.RowKit
set_option linter.unusedSimpArgs false

theorem Below.drewN' {B : Nat} {a w : World} (h : Below B a w) (n : Nat) : Below B a (w.drewN n) := by
  induction n with
  | zero => exact h
  | succ n ih => exact ih.drew
theorem cells_at {w : World} {b : Nat} {A : Array Value} {t : TypeId} (h : w.heap[b]? = some (.cells A t)) : ∀ o, w.cell? ⟨b, o, none⟩ = A[o]? := fun o => cell_of_row w b o A t (0, 0) h
theorem frozen_at {w : World} {b : Nat} {A : Array Value} {t : TypeId} (h : w.heap[b]? = some (.cells A t)) : ∀ o, w.frozen? ⟨b, o, none⟩ = false := fun o => frozen_of_row w b o A t h
theorem alloc_at (w : World) (o : Obj) {k : Nat} (h : k = w.heap.size) : (w.alloc o).heap[k]? = some o := by subst h; exact heap_alloc_new w o

theorem below5 (w : World) (a b c d e : Obj) : Below w.heap.size w (((((w.alloc a).alloc b).alloc c).alloc d).alloc e) := (below4 w a b c d).alloc (by simp; omega) e
/-- What is known of the world behind publish. -/
structure Aft (ds dl : Bool) (or nr i tO tN lO lN pO pN kn ls ch rel W E : Int) (w : World) (R : Nat) (vs vl : Value) (wx : World) : Prop where
  bi : wx.heap[w.heap.size]? = some (.cells #[.int .u8 or, .int .u8 nr, .int .u64 i, .int .u64 tO, .int .u64 tN, .int .u64 lO, .int .u64 lN, .int .u64 pO, .int .u64 pN, .int .u64 kn, .int .u64 ls, .int .u64 ch, .int .i64 rel] 24)
  bo : wx.heap[w.heap.size + 1]? = some (.cells #[.int .u64 i, .int .u8 (or % 4), .int .u64 tO, .int .u64 lO, .int .u64 pO] 48)
  bs : wx.heap[w.heap.size + 2]? = some (.cells #[.int .u64 i, .int .u8 (nr % 4), .int .u64 tN, .int .u64 lN, .int .u64 pN] 48)
  br : wx.heap[R]? = some (.cells #[.int .u64 W, .int .i64 E, .pointer none] 51)
  bel : Below w.heap.size w wx
  hR : w.heap.size + 3 ≤ R
  hz : R + 5 ≤ wx.heap.size
  n29 : wx.cell? ⟨R + 1 + 1 + 1 + 1, 29, none⟩ = some (.int .u64 i)
  n30 : wx.cell? ⟨R + 1 + 1 + 1 + 1, 30, none⟩ = some (.int .u8 (nr % 4))
  n31 : wx.cell? ⟨R + 1 + 1 + 1 + 1, 31, none⟩ = some (.int .u64 tN)
  n32 : wx.cell? ⟨R + 1 + 1 + 1 + 1, 32, none⟩ = some (.int .u64 lN)
  n33 : wx.cell? ⟨R + 1 + 1 + 1 + 1, 33, none⟩ = some (.int .u64 pO)
  n39 : wx.cell? ⟨R + 1 + 1 + 1 + 1, 39, none⟩ = some (.int .u64 (chOf ch kn lN))
  n41 : wx.cell? ⟨R + 1 + 1 + 1 + 1, 41, none⟩ = some (.int .u64 (lsOf ls (endsB (nr % 4) tN (or % 4) tO)))
  n44 : wx.cell? ⟨R + 1 + 1 + 1 + 1, 44, none⟩ = some (.int .u64 (knOf kn lN))
  cs : wx.cell? ⟨R + 1, 0, none⟩ = some vs
  os : wx.ownsRow (R + 5) 48 5 vs (stN ds) (stC ds i (nr % 4) tN lN pO)
  cl : wx.cell? ⟨R + 1 + 1, 0, none⟩ = some vl
  ol : wx.ownsRow (R + 5) 56 5 vl (leadN dl (endsB (or % 4) tO (nr % 4) tN) (endsB (nr % 4) tN (or % 4) tO)) (leadC dl (endsB (or % 4) tO (nr % 4) tN) (endsB (nr % 4) tN (or % 4) tO) tO tN W E)

theorem Aft.next {ds dl : Bool} {or nr i tO tN lO lN pO pN kn ls ch rel W E : Int} {w : World} {R : Nat} {vs vl : Value} {wx wy : World} (h : Aft ds dl or nr i tO tN lO lN pO pN kn ls ch rel W E w R vs vl wx) (hb : Below wx.heap.size wx wy) : Aft ds dl or nr i tO tN lO lN pO pN kn ls ch rel W E w R vs vl wy := by
  have hR := h.hR
  have hz := h.hz
  have c : ∀ b o, b < wx.heap.size → wy.cell? ⟨b, o, none⟩ = wx.cell? ⟨b, o, none⟩ := fun b o hh => hb.cell (p := ⟨b, o, none⟩) hh
  exact ⟨(hb.block _ (by omega)).trans h.bi, (hb.block _ (by omega)).trans h.bo, (hb.block _ (by omega)).trans h.bs, (hb.block _ (by omega)).trans h.br, h.bel.trans (hb.mono (by omega)), hR, Nat.le_trans hz hb.size,
    (c _ _ (by omega)).trans h.n29, (c _ _ (by omega)).trans h.n30, (c _ _ (by omega)).trans h.n31, (c _ _ (by omega)).trans h.n32, (c _ _ (by omega)).trans h.n33, (c _ _ (by omega)).trans h.n39, (c _ _ (by omega)).trans h.n41, (c _ _ (by omega)).trans h.n44,
    (c _ _ (by omega)).trans h.cs, own_keep h.os fun k hk => hb.block k (h.os.lt k hk).2, (c _ _ (by omega)).trans h.cl, own_keep h.ol fun k hk => hb.block k (h.ol.lt k hk).2⟩

theorem new5 (w : World) (a b c d e : Obj) : (((((w.alloc a).alloc b).alloc c).alloc d).alloc e).heap[w.heap.size]? = some a ∧ (((((w.alloc a).alloc b).alloc c).alloc d).alloc e).heap[w.heap.size + 1]? = some b ∧
    (((((w.alloc a).alloc b).alloc c).alloc d).alloc e).heap[w.heap.size + 1 + 1]? = some c ∧ (((((w.alloc a).alloc b).alloc c).alloc d).alloc e).heap[w.heap.size + 1 + 1 + 1 + 1]? = some e ∧ (((((w.alloc a).alloc b).alloc c).alloc d).alloc e).heap.size = w.heap.size + 5 := by
  obtain ⟨k0, k1, k2⟩ := three_new w a b c
  have n3 : (((w.alloc a).alloc b).alloc c).heap.size = w.heap.size + 3 := by simp
  have n4 : ((((w.alloc a).alloc b).alloc c).alloc d).heap.size = w.heap.size + 4 := by simp
  refine ⟨?_, ?_, ?_, ?_, by simp⟩
  · exact (Below.heap_alloc _ _ _ (by omega)).trans ((Below.heap_alloc _ _ _ (by omega)).trans k0)
  · exact (Below.heap_alloc _ _ _ (by omega)).trans ((Below.heap_alloc _ _ _ (by omega)).trans k1)
  · exact (Below.heap_alloc _ _ _ (by omega)).trans ((Below.heap_alloc _ _ _ (by omega)).trans k2)
  · exact alloc_at _ e (by omega)
def dropS : Nat → Code → Option Code
  | 0, c => some c
  | n + 1, .seq _ b => dropS n b
  | _, _ => .none
theorem seq_cut {P : Program} {x y : Code} {Q : Exit → Act → World → Prop} {a : Act} {w : World} (h : ∀ J K : Act → World → Prop, Hid (∀ a w, y.wp P Q a w → J a w) → (∀ a w, Met J a w → K a w) → x.wp P (Exit.then K Q) a w) : (Code.seq x y).wp P Q a w :=
  wp_seq (h (y.wp P Q) (y.wp P Q) (fun _ _ h => h) (fun _ _ h => h))

theorem new2 (w : World) (A B : Obj) : ((w.alloc A).alloc B).heap[w.heap.size]? = some A ∧ ((w.alloc A).alloc B).heap[w.heap.size + 1]? = some B ∧ ((w.alloc A).alloc B).heap.size = w.heap.size + 2 ∧ Below w.heap.size w ((w.alloc A).alloc B) :=
  ⟨(Below.heap_alloc _ _ _ (by simp)).trans (alloc_at w A rfl), alloc_at (w.alloc A) B (by simp), by simp, ((Below.refl _ _).alloc (Nat.le_refl _) A).alloc (by simp) B⟩

end Go.Proofs.Ybulkbfme
