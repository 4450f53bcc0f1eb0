import Derived.Test.YbulkbfpkRows
import Derived.WalkKit
import Derived.WalkSpells
import Derived.WalkLawsBesides
import Derived.Laws.EntriesVeiled
import Derived.Laws.Cover3
import Derived.Laws.Tables
import Derived.Laws.MakeOwn
import Derived.Laws.AppendOwnNone
import Derived.Deep.AppendLies
import Derived.Deep.RegionHeld3
import Derived.Deep.DeepCutAuto
import Derived.OwnWalk
import Derived.Below
namespace Go.Proofs.Ybulkbfpk
open Go.RowKit

theorem hide {p : Prop} (h : p) : Hid p := h
def dropS : Nat → Code → Option Code
  | 0, c => some c
  | n + 1, .seq _ b => dropS n b
  | _, _ => .none
theorem seq_cut {P : Program} {x y : Code} {Q : Exit → Act → World → Prop} {a : Act} {w : World} (h : ∀ J K : Act → World → Prop, Hid (∀ a w, y.wp P Q a w → J a w) → (∀ a w, Met J a w → K a w) → x.wp P (Exit.then K Q) a w) : (Code.seq x y).wp P Q a w :=
  wp_seq (h (y.wp P Q) (y.wp P Q) (fun _ _ h => h) (fun _ _ h => h))
theorem wpList_build_at {P : Program} {w : World} {ops : Array Oper} {rest : List Oper} {o : Oper} {a : Act} {Q : Exit → Act → World → Prop} (hgd : o.guard = none) (t : TypeId) (parts : Array (Nat × Operand)) (ho : o.op = .build t parts) (Z : Array Value) (vs : List (Nat × Value))
    (hv : parts.toList.map (fun p => (p.1, a.eval p.2)) = vs) (hZ : P.built t vs = some Z) (h : wpList P ops Q rest (a.put o.dst (.agg Z)) w) : wpList P ops Q (o :: rest) a w :=
  wpList_plain hgd fun K hK =>
    have hZ' : P.built t (parts.map fun (i, x) => (i, a.eval x)).toList = some Z := by rw [Array.toList_map, ← hZ, ← hv]
    wp_build t parts ho (by rw [hZ']; rfl) (by rw [hZ']; exact hK _ _ h)

theorem cells_at {w : World} {b : Nat} {A : Array Value} {t : TypeId} (h : w.heap[b]? = some (.cells A t)) : ∀ o, w.cell? ⟨b, o, none⟩ = A[o]? := fun o => by simp [World.cell?, h]
theorem frozen_at {w : World} {b : Nat} {A : Array Value} {t : TypeId} (h : w.heap[b]? = some (.cells A t)) : ∀ o, w.frozen? ⟨b, o, none⟩ = false := fun o => by simp [World.frozen?, h]
theorem newBlock (w : World) (o : Obj) : (w.alloc o).heap[w.heap.size]? = some o := heap_alloc_new w o
theorem lt_of_cell {w : World} {b o : Nat} {v : Value} (h : w.cell? ⟨b, o, none⟩ = some v) : b < w.heap.size := World.block_lt_of_cell? w ⟨b, o, none⟩ h
theorem cell_set {w : World} {b o c p : Nat} {u v : Value} (h : w.cell? ⟨b, o, none⟩ = some u) : (w.setCell ⟨b, o, none⟩ v).cell? ⟨c, p, none⟩ = if c = b ∧ p = o then some v else w.cell? ⟨c, p, none⟩ := by
  split
  · rename_i hh; obtain ⟨rfl, rfl⟩ := hh; exact World.cell?_setCell_same _ _ _ h
  · rename_i hh; exact World.cell?_setCell_other _ _ _ _ (by intro he; injection he with h1 h2; exact hh ⟨h1.symm, h2.symm⟩)
theorem cell_set_ne {w : World} {b o c p : Nat} {v : Value} (h : ¬ (c = b ∧ p = o)) : (w.setCell ⟨b, o, none⟩ v).cell? ⟨c, p, none⟩ = w.cell? ⟨c, p, none⟩ :=
  World.cell?_setCell_other _ _ _ _ (by intro he; injection he with h1 h2; exact h ⟨h1.symm, h2.symm⟩)
def upd {α : Type} (f : Nat → α) (p : Nat) (v : α) : Nat → α := fun u => if u = p then v else f u
theorem upd_eq {α : Type} (f : Nat → α) (p : Nat) (v : α) : upd f p v p = v := by simp [upd]
theorem upd_ne {α : Type} (f : Nat → α) {p u : Nat} (v : α) (h : u ≠ p) : upd f p v u = f u := by simp [upd, h]

/-- All that lay there but the blocks of S is as it was. -/
structure But (S : List Nat) (w w' : World) : Prop where
  os : w'.os = w.os
  tape : w'.tape = w.tape
  output : w'.output = w.output
  size : w.heap.size ≤ w'.heap.size
  block : ∀ k, k < w.heap.size → k ∉ S → w'.heap[k]? = w.heap[k]?
theorem But.refl (S : List Nat) (w : World) : But S w w := ⟨rfl, rfl, rfl, Nat.le_refl _, fun _ _ _ => rfl⟩
theorem But.trans {S : List Nat} {a b c : World} (h : But S a b) (k : But S b c) : But S a c :=
  ⟨k.os.trans h.os, k.tape.trans h.tape, k.output.trans h.output, Nat.le_trans h.size k.size, fun i hi hs => (k.block i (Nat.lt_of_lt_of_le hi h.size) hs).trans (h.block i hi hs)⟩
theorem But.sub {S T : List Nat} {a b : World} (h : But S a b) (hs : ∀ k, k ∈ S → k ∈ T) : But T a b := ⟨h.os, h.tape, h.output, h.size, fun k hk hn => h.block k hk fun hm => hn (hs k hm)⟩
theorem But.of_below {S : List Nat} {w W : World} (h : Below w.heap.size w W) : But S w W := ⟨h.os, h.tape, h.output, h.size, fun k hk _ => h.block k hk⟩
theorem But.setCell {S : List Nat} {w W : World} (h : But S w W) {p : Addr} (hp : p.block ∈ S) (v : Value) : But S w (W.setCell p v) :=
  ⟨h.os, h.tape, h.output, by simpa [World.setCell] using h.size, fun k hk hs => (Below.heap_setCell _ _ _ _ (fun e => hs (by rw [e]; exact hp))).trans (h.block k hk hs)⟩
/-- A store into a block that was not there. -/
theorem But.setNew {S : List Nat} {w W : World} (h : But S w W) {p : Addr} (hp : w.heap.size ≤ p.block) (v : Value) : But S w (W.setCell p v) :=
  ⟨h.os, h.tape, h.output, by simpa [World.setCell] using h.size, fun k hk hs => (Below.heap_setCell _ _ _ _ (fun e => by omega)).trans (h.block k hk hs)⟩
theorem But.drew {S : List Nat} {w W : World} (h : But S w W) : But S w W.drew := ⟨h.os, h.tape, h.output, h.size, h.block⟩
theorem But.alloc {S : List Nat} {w W : World} (h : But S w W) (o : Obj) : But S w (W.alloc o) :=
  h.trans (But.of_below ((Below.refl _ _).alloc (Nat.le_refl _) _))
theorem But.grown {S : List Nat} {w W W' : World} {row : Option Nat} (h : But S w W) (hg : W.grownBy W' row) (hr : ∀ k, row = some k → k ∈ S ∨ w.heap.size ≤ k) : But S w W' :=
  ⟨hg.os.trans h.os, hg.tape.trans h.tape, hg.output.trans h.output, Nat.le_trans h.size hg.size, fun k hk hs => (hg.block k (Nat.lt_of_lt_of_le hk h.size) (fun e => by
    rcases hr k e.symm with h1 | h1
    · exact hs h1
    · omega)).trans (h.block k hk hs)⟩
theorem But.cell {S : List Nat} {w w' : World} (h : But S w w') {b o : Nat} {v : Value} (hb : b ∉ S) (hc : w.cell? ⟨b, o, none⟩ = some v) : w'.cell? ⟨b, o, none⟩ = some v :=
  (World.cell?_of_block (a := ⟨b, o, none⟩) (h.block b (lt_of_cell hc) hb)).trans hc
theorem But.frozen {S : List Nat} {w w' : World} (h : But S w w') {b o : Nat} (hb : b ∉ S) (hl : b < w.heap.size) : w'.frozen? ⟨b, o, none⟩ = w.frozen? ⟨b, o, none⟩ :=
  World.frozen?_of_block (a := ⟨b, o, none⟩) (h.block b hl hb)

/-! ### ROWS OF THE CALL'S OWN, ONE APART FROM THE OTHER -/
def Far (a b : Option Nat) : Prop := a = none ∨ a ≠ b
theorem Far.symm {a b : Option Nat} (h : Far a b) : Far b a := by
  rcases h with h | h
  · subst h
    cases b with
    | none => exact .inl rfl
    | some x => exact .inr (by simp)
  · exact .inr fun e => h e.symm
structure Row where
  e : TypeId
  v : Value
  xs : List Value
structure Rows (w : World) (B : Nat) (l : List Row) : Prop where
  own : ∀ (i : Nat) r, l[i]? = some r → w.ownsRow B r.e 1 r.v r.xs.length r.xs
  far : ∀ (i j : Nat) r s, i ≠ j → l[i]? = some r → l[j]? = some s → Far r.v.ownBlock s.v.ownBlock
theorem own_kept {w w' : World} {B : Nat} {e : TypeId} {v : Value} {n : Nat} {xs : List Value} (h : w.ownsRow B e 1 v n xs) (hk : ∀ k, v.ownBlock = some k → B ≤ k → k < w.heap.size → w'.heap[k]? = w.heap[k]?) : w'.ownsRow B e 1 v n xs := by
  have hlt := h.lt
  obtain ⟨h1, h2⟩ := h
  refine ⟨h1, h2.imp id ?_⟩
  rintro ⟨g, cap, cur, e, hB, hc, rr⟩
  subst e
  exact ⟨g, cap, cur, rfl, hB, (hk g rfl hB (hlt g rfl).2).trans hc, rr⟩
theorem Rows.set {w w' : World} {B : Nat} {l : List Row} (h : Rows w B l) (i : Nat) (r r' : Row) (hi : l[i]? = some r) (hr' : w'.ownsRow B r'.e 1 r'.v r'.xs.length r'.xs)
    (hg : ∀ k, B ≤ k → k < w.heap.size → some k ≠ r.v.ownBlock → w'.heap[k]? = w.heap[k]?) (hl : r'.v.ownBlock = r.v.ownBlock ∨ ∃ g, r'.v.ownBlock = some g ∧ w.heap.size ≤ g) : Rows w' B (l.set i r') := by
  have hlt : i < l.length := by
    rcases Nat.lt_or_ge i l.length with h | h
    · exact h
    · rw [List.getElem?_eq_none h] at hi; cases hi
  have hfar : ∀ j s, j ≠ i → l[j]? = some s → Far r'.v.ownBlock s.v.ownBlock := by
    intro j s hj hs
    rcases hl with e | ⟨g, e, hg⟩
    · rw [e]; exact h.far i j r s (fun e => hj e.symm) hi hs
    · rw [e]
      right
      intro hc
      have := (h.own j s hs).lt _ hc.symm
      omega
  refine ⟨fun j s hj => ?_, fun j k s t hjk hs ht => ?_⟩
  · rw [List.getElem?_set] at hj
    by_cases hij : i = j
    · rw [if_pos hij, if_pos hlt] at hj; cases hj; exact hr'
    · rw [if_neg hij] at hj
      refine own_kept (h.own j s hj) fun k hk hB hlk => hg k hB hlk ?_
      rw [← hk]
      rcases h.far j i s r (fun e => hij e.symm) hj hi with h0 | h0
      · rw [h0] at hk; cases hk
      · exact h0
  · rw [List.getElem?_set] at hs ht
    by_cases hij : i = j
    · by_cases hik : i = k
      · omega
      · rw [if_pos hij, if_pos hlt] at hs
        rw [if_neg hik] at ht
        cases hs
        exact hfar k t (fun e => hik e.symm) ht
    · by_cases hik : i = k
      · rw [if_neg hij] at hs
        rw [if_pos hik, if_pos hlt] at ht
        cases ht
        exact (hfar j s (fun e => hij e.symm) hs).symm
      · rw [if_neg hij] at hs
        rw [if_neg hik] at ht
        exact h.far j k s t hjk hs ht
theorem Rows.but {S : List Nat} {w w' : World} {B : Nat} {l : List Row} (h : Rows w B l) (hb : But S w w') (hS : ∀ k, k ∈ S → k < B) : Rows w' B l := by
  refine ⟨fun i r hi => ?_, h.far⟩
  obtain ⟨h1, h2⟩ := h.own i r hi
  refine ⟨h1, h2.imp id ?_⟩
  rintro ⟨g, cap, cur, e, hB, hc, rr⟩
  refine ⟨g, cap, cur, e, hB, (hb.block g ?_ (fun hm => by have := hS g hm; omega)).trans hc, rr⟩
  rcases Nat.lt_or_ge g w.heap.size with h | h
  · exact h
  · rw [Array.getElem?_eq_none h] at hc; cases hc
end Go.Proofs.Ybulkbfpk
