import Derived.Test.YbulkbfpkSmall
namespace Go.Proofs.Ybulkbfpk
open Go.RowKit
namespace Inp
def keptL (I : Inp) (k : Nat) : List Value := (List.range (I.K k)).map fun i => .int .i64 (I.kp k i)
def roomL (I : Inp) (k : Nat) : List Value := (List.range (I.K k)).map fun i => .int .i64 (I.rm k i)
def nidL (I : Inp) (k : Nat) : List Value := (List.range I.n).map fun a => .int .i64 (if a < k then (I.nx a : Int) else 0)
theorem keptL_len (I : Inp) (k : Nat) : (I.keptL k).length = I.K k := by simp [keptL]
theorem roomL_len (I : Inp) (k : Nat) : (I.roomL k).length = I.K k := by simp [roomL]
theorem nidL_len (I : Inp) (k : Nat) : (I.nidL k).length = I.n := by simp [nidL]
theorem keptL_at (I : Inp) (k i : Nat) (h : i < I.K k) : (I.keptL k)[i]? = some (.int .i64 (I.kp k i)) := by simp [keptL, h]
theorem roomL_at (I : Inp) (k i : Nat) (h : i < I.K k) : (I.roomL k)[i]? = some (.int .i64 (I.rm k i)) := by simp [roomL, h]
theorem nidL_at (I : Inp) (k i : Nat) (h : i < I.n) : (I.nidL k)[i]? = some (.int .i64 (if i < k then (I.nx i : Int) else 0)) := by simp [nidL, h]
theorem ext_at {xs ys : List Value} (h1 : xs.length = ys.length) (h2 : ∀ i, i < xs.length → xs[i]? = ys[i]?) : xs = ys := by
  apply List.ext_getElem?
  intro i
  by_cases h : i < xs.length
  · exact h2 i h
  · rw [List.getElem?_eq_none (by omega), List.getElem?_eq_none (by omega)]
theorem keptL_keep {I : Inp} {k : Nat} (h : I.keep k = true) : I.keptL (k + 1) = I.keptL k ++ [.int .i64 k] := by
  obtain ⟨h1, h2, _, _⟩ := K_keep h
  refine ext_at (by simp [keptL_len, h1]) fun i hi => ?_
  rw [keptL_len, h1] at hi
  rw [keptL_at I _ i (by omega), h2]
  by_cases e : i = I.K k
  · subst e
    rw [upd_eq, List.getElem?_append_right (by rw [keptL_len]; exact Nat.le_refl _)]
    simp [keptL_len]
  · rw [upd_ne _ _ e, List.getElem?_append_left (by rw [keptL_len]; omega), keptL_at I k i (by omega)]
theorem roomL_keep {I : Inp} {k : Nat} (h : I.keep k = true) : I.roomL (k + 1) = I.roomL k ++ [.int .i64 (I.rom k)] := by
  obtain ⟨h1, _, h2, _⟩ := K_keep h
  refine ext_at (by simp [roomL_len, h1]) fun i hi => ?_
  rw [roomL_len, h1] at hi
  rw [roomL_at I _ i (by omega), h2]
  by_cases e : i = I.K k
  · subst e
    rw [upd_eq, List.getElem?_append_right (by rw [roomL_len]; exact Nat.le_refl _)]
    simp [roomL_len]
  · rw [upd_ne _ _ e, List.getElem?_append_left (by rw [roomL_len]; omega), roomL_at I k i (by omega)]
theorem keptL_skip {I : Inp} {k : Nat} (h : I.keep k = false) : I.keptL (k + 1) = I.keptL k := by
  obtain ⟨h1, h2, _, _⟩ := K_skip h
  simp [keptL, h1, h2]
theorem roomL_less {I : Inp} {k : Nat} (hk : 0 < k) (h : I.keep k = false) (hl : I.rom k < I.rm k (I.K k - 1)) : I.roomL (k + 1) = (I.roomL k).set (I.K k - 1) (.int .i64 (I.rom k)) := by
  obtain ⟨h1, _, h2, _⟩ := K_skip h
  refine ext_at (by simp [roomL_len, h1]) fun i hi => ?_
  rw [roomL_len, h1] at hi
  have hp := I.K_pos k hk
  rw [roomL_at I _ i (by omega), h2]
  by_cases e : i = I.K k - 1
  · subst e
    rw [upd_eq, List.getElem?_set_self (by rw [roomL_len]; omega)]
    rw [show min (I.rm k (I.K k - 1)) (I.rom k) = I.rom k by omega]
  · rw [upd_ne _ _ e, List.getElem?_set_ne (by omega), roomL_at I k i (by omega)]
theorem roomL_more {I : Inp} {k : Nat} (h : I.keep k = false) (hl : ¬ I.rom k < I.rm k (I.K k - 1)) : I.roomL (k + 1) = I.roomL k := by
  obtain ⟨h1, _, h2, _⟩ := K_skip h
  refine ext_at (by simp [roomL_len, h1]) fun i hi => ?_
  rw [roomL_len, h1] at hi
  rw [roomL_at I _ i (by omega), roomL_at I k i (by omega), h2]
  by_cases e : i = I.K k - 1
  · subst e
    rw [upd_eq, show min (I.rm k (I.K k - 1)) (I.rom k) = I.rm k (I.K k - 1) by omega]
  · rw [upd_ne _ _ e]
theorem nidL_succ {I : Inp} {k : Nat} (hk : k < I.n) : I.nidL (k + 1) = (I.nidL k).set k (.int .i64 (I.nx k)) := by
  refine ext_at (by simp [nidL_len]) fun i hi => ?_
  rw [nidL_len] at hi
  rw [nidL_at I _ i hi]
  by_cases e : i = k
  · subst e
    rw [List.getElem?_set_self (by rw [nidL_len]; omega), if_pos (by omega)]
  · rw [List.getElem?_set_ne (by omega), nidL_at I k i hi]
    by_cases e2 : i < k
    · rw [if_pos e2, if_pos (by omega)]
    · rw [if_neg e2, if_neg (by omega)]
theorem X_ints (I : Inp) : ∀ k i, Ints (I.X k i)
  | 0, i => by intro u hu; simp [X] at hu
  | k + 1, i => by
    have ih := I.X_ints k
    intro u hu
    simp only [X] at hu
    split at hu
    · exact ih i u hu
    · simp only [dropX] at hu
      by_cases e3 : i = 3
      · subst e3
        simp only [if_true, List.mem_append] at hu
        rcases hu with hu | hu
        · exact ih 3 u hu
        · simp only [pickI, List.mem_map] at hu
          obtain ⟨j, _, rfl⟩ := hu
          exact ⟨_, rfl⟩
      · rw [if_neg e3] at hu
        by_cases e0 : i = 0
        · subst e0
          simp only [if_true, List.mem_append] at hu
          rcases hu with hu | hu
          · exact ih 0 u hu
          · exact ⟨_, List.mem_singleton.1 hu⟩
        · rw [if_neg e0] at hu
          by_cases e1 : i = 1
          · subst e1
            simp only [if_true] at hu
            split at hu
            · rcases List.mem_append.1 hu with hu | hu
              · exact ih 1 u hu
              · exact ⟨_, List.mem_singleton.1 hu⟩
            · exact ih 1 u hu
          · rw [if_neg e1] at hu
            by_cases e2 : i = 2
            · subst e2
              simp only [if_true] at hu
              split at hu
              · exact ih 2 u hu
              · rcases List.mem_append.1 hu with hu | hu
                · exact ih 2 u hu
                · exact ⟨_, List.mem_singleton.1 hu⟩
            · rw [if_neg e2] at hu
              exact ih i u hu
end Inp
theorem Rows.alloc {w : World} {B : Nat} {l : List Row} (h : Rows w B l) (o : Obj) : Rows (w.alloc o) B l := ⟨fun i r hi => (h.own i r hi).alloc o, h.far⟩
theorem Rows.drew {w : World} {B : Nat} {l : List Row} (h : Rows w B l) : Rows w.drew B l := ⟨fun i r hi => h.own i r hi, h.far⟩
theorem own_not {w : World} {B NB : Nat} {e t : TypeId} {v : Value} {n : Nat} {xs : List Value} {A : Array Value} (h : w.ownsRow B e 1 v n xs) (hA : w.heap[NB]? = some (.cells A t)) (he : e ≠ t) : some NB ≠ v.ownBlock := by
  intro e1
  rcases h.2 with ⟨h2, _⟩ | ⟨g, cap, cur, h2, _, hg, _⟩
  · rw [h2] at e1; cases e1
  · rw [h2] at e1
    cases e1
    rw [hA] at hg
    cases hg
    exact he rfl
/-- The law's own rows while it reckons: base B; 'in' is block NB. -/
structure MS (wq : World) (B NB : Nat) (inb : Array Value) (l : List Row) (w : World) : Prop where
  rows : Rows w B l
  bel : Below B wq w
  inb : w.heap[NB]? = some (.cells inb 26)
  hB : B ≤ w.heap.size
  nb : B ≤ NB
section
variable {wq w w' : World} {B NB : Nat} {inb : Array Value} {l : List Row}
theorem MS.alloc (h : MS wq B NB inb l w) (o : Obj) : MS wq B NB inb l (w.alloc o) :=
  ⟨h.rows.alloc o, h.bel.alloc h.hB o, (Below.heap_alloc _ _ _ (lt_of_block h.inb)).trans h.inb, by have := h.hB; simp; omega, h.nb⟩
theorem MS.drew (h : MS wq B NB inb l w) : MS wq B NB inb l w.drew := ⟨h.rows.drew, h.bel.drew, h.inb, h.hB, h.nb⟩
theorem MS.grow (h : MS wq B NB inb l w) (i : Nat) (r : Row) (hi : l[i]? = some r) (he : r.e ≠ 26) (v' : Value) (xs' : List Value) (ho : w'.ownsRow B r.e 1 v' xs'.length xs') (hg : w.grownBy w' r.v.ownBlock) (hl : v'.ownBlock = r.v.ownBlock ∨ ∃ g, v'.ownBlock = some g ∧ w.heap.size ≤ g) : MS wq B NB inb (l.set i ⟨r.e, v', xs'⟩) w' := by
  have hown := h.rows.own i r hi
  refine ⟨h.rows.set i r ⟨r.e, v', xs'⟩ hi ho (fun k _ hk hn => hg.block k hk hn) hl, h.bel.grown hg h.hB (fun k hk => (hown.lt k hk).1), (hg.block NB (lt_of_block h.inb) (own_not hown h.inb he)).trans h.inb, Nat.le_trans h.hB hg.size, h.nb⟩
theorem MS.store (h : MS wq B NB inb l w) (i : Nat) (e : TypeId) (g cap n : Nat) (xs : List Value) (hi : l[i]? = some ⟨e, .slice (some ⟨g, 0, none⟩) n cap, xs⟩) (he : e ≠ 26) (hn : xs.length = n) (j : Nat) (u : Value) : MS wq B NB inb (l.set i ⟨e, .slice (some ⟨g, 0, none⟩) n cap, xs.set j u⟩) (w.setCell ⟨g, j, none⟩ u) := by
  have ho := h.rows.own i _ hi
  simp only [hn] at ho
  obtain ⟨h1, h2⟩ := ho.stored j u
  exact h.grow i _ hi he _ (xs.set j u) (by simpa [hn] using h1) h2 (.inl rfl)
end
def mr (v0 v1 v2 v3 v4 v5 v6 : Value) (x0 x1 x2 x3 x4 x5 x6 : List Value) : List Row := [⟨3, v0, x0⟩, ⟨2, v1, x1⟩, ⟨21, v2, x2⟩, ⟨21, v3, x3⟩, ⟨21, v4, x4⟩, ⟨21, v5, x5⟩, ⟨3, v6, x6⟩]
end Go.Proofs.Ybulkbfpk
