import Derived.Test.YbulkbfoiMem
import Derived.Laws.Tables
import Derived.Deep.DeepCutAuto
namespace Go.Proofs.Ybulkbfoi
open Go.RowKit
set_option linter.unusedVariables false
def dropS : Nat → Code → Option Code
  | 0, c => some c
  | n + 1, .seq _ b => dropS n b
  | _, _ => .none
theorem seq_cut {P : Program} {x y : Code} {Q : Exit → Act → World → Prop} {a : Act} {w : World} (h : ∀ J K : Act → World → Prop, Hid (∀ a w, y.wp P Q a w → J a w) → (∀ a w, Met J a w → K a w) → x.wp P (Exit.then K Q) a w) : (Code.seq x y).wp P Q a w :=
  wp_seq (h (y.wp P Q) (y.wp P Q) (fun _ _ h => h) (fun _ _ h => h))
theorem wpList_build_at {P : Program} {w : World} {ops : Array Oper} {rest : List Oper} {o : Oper} {a : Act} {Q : Exit → Act → World → Prop} (hgd : o.guard = none) (t : TypeId) (parts : Array (Nat × Operand)) (ho : o.op = .build t parts) (Z : Array Value)
    (hZ : P.built t (parts.map fun (i, x) => (i, a.eval x)).toList = some Z) (h : wpList P ops Q rest (a.put o.dst (.agg Z)) w) : wpList P ops Q (o :: rest) a w :=
  wpList_plain hgd fun K hK => wp_build t parts ho (by rw [hZ]; rfl) (by rw [hZ]; exact hK _ _ h)

theorem built43_ : (Yba.prog.built 43 []).map (fun F => (F.size, F[0]?, F[1]?, F[2]?, F[3]?)) = some (39, some (.int .u64 0), some (.slice none 0 0), some (.int .u32 0), some (.int .u32 0)) := by kernel_rfl
theorem built43 : ∃ F, Yba.prog.built 43 [] = some F ∧ F.size = 39 ∧ F[0]? = some (.int .u64 0) ∧ F[1]? = some (.slice none 0 0) ∧ F[2]? = some (.int .u32 0) ∧ F[3]? = some (.int .u32 0) := by
  have := built43_
  cases h : Yba.prog.built 43 [] with
  | none => rw [h] at this; cases this
  | some i => rw [h] at this; simp at this; exact ⟨i, rfl, this⟩
theorem built97_ : (Yba.prog.built 97 []).map (fun F => (F.size, F[21]?)) = some (4312, some (.pointer none)) := by kernel_rfl
theorem built97 : ∃ F, Yba.prog.built 97 [] = some F ∧ F.size = 4312 ∧ F[21]? = some (.pointer none) := by
  have := built97_
  cases h : Yba.prog.built 97 [] with
  | none => rw [h] at this; cases this
  | some i => rw [h] at this; simp at this; exact ⟨i, rfl, this⟩

/-- A frame in the making. -/
structure Pre (w : World) (ds : List Int) (b i : Nat) (id ld : Int) : Prop where
  sh : w.shape? b = some (43, 39)
  c0 : w.cell? ⟨b, 0, none⟩ = some (.int .u64 id)
  c1 : ∃ db cap c, w.cell? ⟨b, 1, none⟩ = some (.slice (some ⟨db, 0, none⟩) (ds.length + 1) cap) ∧ w.shape? db = some (5, c) ∧ b < db ∧ ∀ j v, (rowOf i ds)[j]? = some v → w.cell? ⟨db, j, none⟩ = some v
  c2 : w.cell? ⟨b, 2, none⟩ = some (.int .u32 ld)
  c3 : w.cell? ⟨b, 3, none⟩ = some (.int .u32 0)
  fz : ∀ o, w.frozen? ⟨b, o, none⟩ = false

/-- What is known of the arguments. -/
structure Env (a0 a1 a2 a3 : Option Addr) (len0 cap0 len1 cap1 len2 cap2 len3 cap3 : Nat) (q qid : Int) (w : World) (n : Nat) (ids md : Nat → Int) (ds ps : List Int) : Prop where
  i0 : ∀ i, i < len0 → ∃ b o, a0 = some ⟨b, o, none⟩ ∧ b < w.heap.size ∧ w.cell? ⟨b, o + i, none⟩ = some (.int .u64 (ids i))
  iw : ∀ i, i < len0 → (Lit.int .u64 (ids i)).wf = true
  nl : n ≤ len0
  n8 : n ≤ 8
  m1 : ∀ i, i < len1 → ∃ b o x, a1 = some ⟨b, o, none⟩ ∧ b < w.heap.size ∧ w.cell? ⟨b, o + i, none⟩ = some (.int .u8 x) ∧ x.tmod 4 = md i ∧ 0 ≤ x ∧ x < 256
  m2 : ∀ i, len1 ≤ i → md i = 0
  md : ∀ i, md i = 0 ∨ md i = 1 ∨ md i = 2 ∨ md i = 3
  d2 : Src w a2 len2 cap2 ds
  l2 : len2 ≤ 1024
  p3 : Src w a3 len3 cap3 ps
  l3 : len3 ≤ 1024
  q0 : 0 ≤ q ∧ q < 256
theorem cells_at {w : World} {b : Nat} {A : Array Value} {t : TypeId} (h : w.heap[b]? = some (.cells A t)) : ∀ o, w.cell? ⟨b, o, none⟩ = A[o]? := fun o => by simp [World.cell?, h]
theorem frozen_at {w : World} {b : Nat} {A : Array Value} {t : TypeId} (h : w.heap[b]? = some (.cells A t)) : ∀ o, w.frozen? ⟨b, o, none⟩ = false := fun o => by simp [World.frozen?, h]
theorem newBlock (w : World) (o : Obj) : (w.alloc o).heap[w.heap.size]? = some o := heap_alloc_new w o
theorem frame_block {wc w2 : World} {F : Array Value} {O : Obj} {row : Nat} (hr : row ≠ wc.heap.size) (h2 : ((wc.alloc (.cells F 43)).alloc O).grownBy w2 (some row)) : w2.heap[wc.heap.size]? = some (.cells F 43) := by
  rw [h2.block wc.heap.size (by simp; omega) (by intro h; injection h with h; exact hr h.symm), Below.heap_alloc _ _ _ (by simp)]
  exact newBlock _ _
theorem pre_of {wc w2 : World} {F : Array Value} {id : Int} {j g cap len2 : Nat} {ds : List Int} (hFs : F.size = 39) (hF1 : F[1]? = some (.slice none 0 0)) (hF2 : F[2]? = some (.int .u32 0)) (hF3 : F[3]? = some (.int .u32 0)) (hl : ds.length = len2)
    (h1 : w2.ownsRow (wc.heap.size + 1) 5 1 (.slice (some ⟨g, 0, none⟩) (1 + len2) cap) (1 + len2) ([.int .u8 (j + 1)] ++ ds.map (.int .u8)))
    (h2 : ((wc.alloc (.cells (F.setIfInBounds 0 (.int .u64 id)) 43)).alloc (.cells #[.int .u8 (j + 1)] 5)).grownBy w2 (some (wc.heap.size + 1))) :
    Below wc.heap.size wc (w2.setCell ⟨wc.heap.size, 1, none⟩ (.slice (some ⟨g, 0, none⟩) (1 + len2) cap)) ∧ Pre (w2.setCell ⟨wc.heap.size, 1, none⟩ (.slice (some ⟨g, 0, none⟩) (1 + len2) cap)) ds wc.heap.size j id 0 := by
  have hb := frame_block (by omega) h2
  have hc := cells_at hb
  have hz := frozen_at hb
  have hg := (h1.lt g rfl).1
  have hgl := (h1.lt g rfl).2
  have h0 : w2.cell? ⟨wc.heap.size, 1, none⟩ = some (.slice none 0 0) := by rw [hc, Array.getElem?_setIfInBounds_ne (by omega)]; exact hF1
  have c : ∀ p, p ≠ 1 → (w2.setCell ⟨wc.heap.size, 1, none⟩ (.slice (some ⟨g, 0, none⟩) (1 + len2) cap)).cell? ⟨wc.heap.size, p, none⟩ = (F.setIfInBounds 0 (.int .u64 id))[p]? := fun p hp => by rw [cell_set_ne (by omega), hc]
  refine ⟨?_, ?_, ?_, ⟨g, cap, ?_⟩, ?_, ?_, ?_⟩
  · refine Below.setCell ?_ (show wc.heap.size ≤ wc.heap.size from Nat.le_refl _) _
    exact (((Below.refl _ _).alloc (Nat.le_refl _) _).alloc (by simp) _).grown h2 (by simp; omega) (fun k hk => by cases hk; omega)
  · rw [shape_setCell]; simp [World.shape?, hb, hFs]
  · rw [c 0 (by omega)]; simp [hFs]
  · rcases h1.2 with ⟨h, _⟩ | ⟨g', cap', cur', he, hB, hcc, hn, hm, hs, ht⟩
    · cases h
    · cases he
      refine ⟨cur'.size, ?_, ?_, by omega, ?_⟩
      · rw [World.cell?_setCell_same _ _ _ h0, hl, Nat.add_comm]
      · rw [shape_setCell]; simp [World.shape?, hcc]
      · intro i v hi
        rw [cell_set_ne (by omega), h1.cellAt i ?_]
        · exact hi
        · have : i < (rowOf j ds).length := by
            rcases Nat.lt_or_ge i (rowOf j ds).length with h | h
            · exact h
            · rw [List.getElem?_eq_none h] at hi; cases hi
          rw [rowOf_length] at this
          omega
  · rw [c 2 (by omega), Array.getElem?_setIfInBounds_ne (by omega)]; exact hF2
  · rw [c 3 (by omega), Array.getElem?_setIfInBounds_ne (by omega)]; exact hF3
  · intro o; rw [frozen_set]; exact hz o
theorem Pre.fr {w : World} {ids md : Nat → Int} {ds : List Int} {b i : Nat} {id ld : Int} (h : Pre w ds b i id ld) (h0 : id = fidOf (md i) (ids i)) (h2 : ld = ldOf (md i)) : Fr w ids md ds b i 0 :=
  ⟨h.sh, h0 ▸ h.c0, h.c1, h2 ▸ h.c2, h.c3, h.fz 3⟩
theorem Pre.drew {w : World} {ds : List Int} {b i : Nat} {id ld : Int} (h : Pre w ds b i id ld) : Pre w.drew ds b i id ld := ⟨h.sh, h.c0, h.c1, h.c2, h.c3, h.fz⟩
theorem Pre.load {w : World} {ds : List Int} {b i : Nat} {id ld : Int} (h : Pre w ds b i id ld) : Pre (w.setCell ⟨b, 2, none⟩ (.int .u32 1)) ds b i id 1 := by
  obtain ⟨db, cap, cc, e1, e2, e4, e3⟩ := h.c1
  exact ⟨(shape_setCell _ _ _ _).trans h.sh, (cell_set_ne (by omega)).trans h.c0, ⟨db, cap, cc, (cell_set_ne (by omega)).trans e1, (shape_setCell _ _ _ _).trans e2, e4, fun j v hj => (cell_set_ne (by omega)).trans (e3 j v hj)⟩, World.cell?_setCell_same _ _ _ h.c2, (cell_set_ne (by omega)).trans h.c3, fun o => (frozen_set _ _ _ _).trans (h.fz o)⟩
theorem Pre.rename {w : World} {ds : List Int} {b i : Nat} {id ld : Int} (h : Pre w ds b i id ld) (x : Int) : Pre (w.setCell ⟨b, 0, none⟩ (.int .u64 x)) ds b i x ld := by
  obtain ⟨db, cap, cc, e1, e2, e4, e3⟩ := h.c1
  exact ⟨(shape_setCell _ _ _ _).trans h.sh, World.cell?_setCell_same _ _ _ h.c0, ⟨db, cap, cc, (cell_set_ne (by omega)).trans e1, (shape_setCell _ _ _ _).trans e2, e4, fun j v hj => (cell_set_ne (by omega)).trans (e3 j v hj)⟩, (cell_set_ne (by omega)).trans h.c2, (cell_set_ne (by omega)).trans h.c3, fun o => (frozen_set _ _ _ _).trans (h.fz o)⟩
theorem Mem.drew {N : Nat} {w0 : World} {n : Nat} {ids md : Nat → Int} {ds : List Int} {j : Nat} {tid : Nat → Int} {tf fp : Nat → Option Addr} {ms : Nat → Int} {w : World} (h : Mem N w0 n ids md ds j tid tf fp ms w) : Mem N w0 n ids md ds j tid tf fp ms w.drew := h.next (Below.refl _ _).drew
theorem Mem.setb {N : Nat} {w0 : World} {n : Nat} {ids md : Nat → Int} {ds : List Int} {j : Nat} {tid : Nat → Int} {tf fp : Nat → Option Addr} {ms : Nat → Int} {w : World} (h : Mem N w0 n ids md ds j tid tf fp ms w) {b o : Nat} (hb : N + 4 ≤ b) (hsh : w.shape? b = some (43, 39)) (hne : ∀ i, i < n → fp i ≠ some ⟨b, 0, none⟩) (v : Value) : Mem N w0 n ids md ds j tid tf fp ms (w.setCell ⟨b, o, none⟩ v) := by
  have hs := h.sz
  have c : ∀ k p, k < N + 4 → (w.setCell ⟨b, o, none⟩ v).cell? ⟨k, p, none⟩ = w.cell? ⟨k, p, none⟩ := fun k p hh => cell_set_ne (by omega)
  have z : ∀ k p, (w.setCell ⟨b, o, none⟩ v).frozen? ⟨k, p, none⟩ = w.frozen? ⟨k, p, none⟩ := fun k p => frozen_set _ _ _ _
  exact ⟨h.bel.setCell (show N ≤ b by omega) _, by simpa using hs, (shape_setCell _ _ _ _).trans h.psh, (c _ _ (by omega)).trans h.p0, (c _ _ (by omega)).trans h.p1, (shape_setCell _ _ _ _).trans h.tsh,
    fun i hi => (c _ _ (by omega)).trans (h.tc i hi), fun i hi => (c _ _ (by omega)).trans (h.tp i hi), fun o => (z _ _).trans (h.tz o), (shape_setCell _ _ _ _).trans h.fsh,
    fun i hi => (c _ _ (by omega)).trans (h.fc i hi), fun o => (z _ _).trans (h.fz o), fun i hi => (c _ _ (by omega)).trans (h.mc i hi), fun o => (z _ _).trans (h.mz o),
    fun i hi a ha => by
      obtain ⟨b', e, hN, hf⟩ := h.fr i hi a ha
      refine ⟨b', e, hN, hf.set _ (.inr ⟨?_, fun c => by rw [hsh]; simp⟩)⟩
      rintro rfl
      exact hne i hi (by rw [ha, e]), h.dist, h.tab, h.msv, h.fpv⟩
theorem Mem.fresh {N : Nat} {w0 : World} {n : Nat} {ids md : Nat → Int} {ds : List Int} {j : Nat} {tid : Nat → Int} {tf fp : Nat → Option Addr} {ms : Nat → Int} {w : World} (h : Mem N w0 n ids md ds j tid tf fp ms w) : ∀ i, i < n → fp i ≠ some ⟨w.heap.size, 0, none⟩ := by
  intro i hi he
  obtain ⟨b, e, hN, hf⟩ := h.fr i hi _ he
  have := lt_of_shape hf.sh
  cases e
  omega
theorem hide {p : Prop} (h : p) : Hid p := h
theorem grown_refl (w : World) (row : Option Nat) : w.grownBy w row := ⟨rfl, rfl, rfl, Nat.le_refl _, fun _ _ _ => rfl⟩
theorem wpList_append_none_abs {P : Program} {w : World} {ops : Array Oper} {rest : List Oper} {o : Oper} {a : Act} {Q : Exit → Act → World → Prop} (hgd : o.guard = none) (s x : Operand) (t : TypeId)
    (ho : o.op = .call { callee := .builtin .append, args := #[s, x], argTypes := #[t, t] })
    (base : Nat) (e : TypeId) (i : TypeInfo) (size : Nat) (ht : P.underlying t = some (.slice e)) (hi : P.info? e = some i)
    (v : Value) (n : Nat) (xs : List Value) (hs : a.eval s = v) (hown : w.ownsRow base e size v n xs) (hx : a.eval x = .slice none 0 0)
    (h : ∀ w', w'.ownsRow base e size v n xs → w.grownBy w' v.ownBlock → wpList P ops Q rest (a.put o.dst v) w') : wpList P ops Q (o :: rest) a w :=
  wpList_append_own_none hgd s x t ho base e i size ht hi v n xs hs hown hx (h w hown (grown_refl _ _))
end Go.Proofs.Ybulkbfoi
