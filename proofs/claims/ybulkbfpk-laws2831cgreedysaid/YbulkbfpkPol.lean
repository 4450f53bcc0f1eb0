import Derived.Test.YbulkbfpkSmall
import Derived.Maps.AppendAt
namespace Go.Proofs.Ybulkbfpk
open Go.RowKit
/-- The nodes of a bid: m of them, f i the i-th. -/
def rowN (m : Nat) (f : Nat → Nat) : List Value := (List.range m).map fun i => .int .i64 (f i)
theorem rowN_len (m : Nat) (f : Nat → Nat) : (rowN m f).length = m := by simp [rowN]
theorem rowN_at (m : Nat) (f : Nat → Nat) (i : Nat) (h : i < m) : (rowN m f)[i]? = some (.int .i64 (f i)) := by simp [rowN, h]
theorem rowN_one (m : Nat) (f : Nat → Nat) : ∀ u ∈ rowN m f, u.oneCell' = true := by
  intro u hu
  simp only [rowN, List.mem_map] at hu
  obtain ⟨j, _, rfl⟩ := hu
  rfl
set_option maxRecDepth 20000 in
set_option maxHeartbeats 1000000 in
theorem cores_any (b o : Nat) (z : Int) (w : World) (h : w.cell? ⟨b, o + 2, none⟩ = some (.int .i64 z)) :
    Calls Yba.prog 19 #[.pointer (some ⟨b, o, none⟩)] w fun e w' => e = .returned (.bool (z == 0)) ∧ w' = w := by
  go_enter Yba.func19, Yba.ntmps19
  go_wp2_with fail
  go_ret
  exact ⟨rfl, rfl⟩
theorem eql_some (t e : TypeId) (h : Yba.prog.underlying t = some (.slice e)) (a : Addr) (l c : Nat) (w : World) : (binOp .eql t (.slice (some a) l c) (.slice none 0 0)).run Yba.prog w = .ok (.bool false) w := by
  simp only [binOp]
  simp [run_equal_slice_nil w t e (some a) l c h]
set_option maxRecDepth 20000 in
set_option maxHeartbeats 1000000 in
theorem clone_some (ad : Addr) (m c : Nat) (f : Nat → Nat) (w : World) (hm : m ≤ 1024) (h : ∀ i, i < m → w.cell? (ad.add i) = some (.int .i64 (f i))) :
    Calls Yba.prog 9 #[.slice (some ad) m c] w fun e w' => ∃ v, e = .returned v ∧ w'.ownsRow w.heap.size 3 1 v m (rowN m f) ∧ Below w.heap.size w w' := by
  obtain ⟨i3, hi3, hz3, hs3, hb3⟩ := info_of (t := 3) (z := .int .i64 0) (s := 1) (b := 8) (by kernel_rfl)
  have q := eql_some 23 3 Yba.underlying23 ad m c w
  have hnews : Hid (∀ o j u, (rowN m f)[j]? = some u → (w.alloc o).cell? (ad.add j) = some u) := by
    intro o j u hj
    have hl : j < m := by
      rcases Nat.lt_or_ge j m with h | h
      · exact h
      · rw [List.getElem?_eq_none (by rw [rowN_len]; omega)] at hj; cases hj
    rw [rowN_at m f j hl] at hj
    cases hj
    have h1 := h j hl
    exact (World.cell?_alloc_lt _ _ _ (World.block_lt_of_cell? w _ h1)).trans h1
  clear h
  have hown := fun C (hC : C.size = 0) => World.ownsRow_lit (base := w.heap.size) (e := 3) (size := 1) w C 0 (Nat.le_refl _) (by decide) hC
  have h0 := hide (hown #[] rfl)
  clear hown
  go_enter Yba.func9, Yba.ntmps9
  go_wp2_with (at_builtin; go_loud (refine wpList_append_own_at _ rfl (.tmp 5) (.tmp 6) 23 rfl w.heap.size 3 i3 _ 1 8 Yba.underlying23 hi3 hz3 hs3 hb3 rfl (by decide) (.slice (some ⟨w.heap.size, 0, none⟩) 0 0) 0 [] rfl h0.out ad m c (rowN m f) rfl (by rw [rowN_len]; omega) (hnews.out _) (rowN_one m f) (by unfold maxLen; omega) (by omega) (by simp) ?_; intro v' w' h1 h2 h3 h4; have H4 := hide (show _ ∧ _ from ⟨h1, h2⟩); clear h1 h2 h3 h4))
  go_ret
  refine ⟨v', rfl, by simpa using H4.out.1, ((Below.refl _ _).alloc (Nat.le_refl _) _).grown H4.out.2 (by simp) (fun k hk => by cases hk; exact Nat.le_refl _)⟩
/-- Clone of a nil slice is nil. -/
theorem clone_nil (w : World) : Calls Yba.prog 9 #[.slice none 0 0] w fun e w' => e = .returned (.slice none 0 0) ∧ w' = w := by
  have q := eql_nil 23 3 Yba.underlying23 w
  go_enter Yba.func9, Yba.ntmps9
  go_wp2_with fail
  go_ret
  exact ⟨rfl, rfl⟩
def fitsF (us : Nat → Bool) (f : Nat → Nat) : Nat → Bool
  | 0 => true
  | i + 1 => fitsF us f i && !us (f i)
def markF (us : Nat → Bool) (f : Nat → Nat) : Nat → Nat → Bool
  | 0 => us
  | i + 1 => upd (markF us f i) (f i) true
def unmarkF (us : Nat → Bool) (f : Nat → Nat) : Nat → Nat → Bool
  | 0 => us
  | i + 1 => upd (unmarkF us f i) (f i) false
theorem fitsF_at {us : Nat → Bool} {f : Nat → Nat} : ∀ {m i : Nat}, i < m → fitsF us f m = true → us (f i) = false
  | 0, i, h, _ => by omega
  | m + 1, i, h, e => by
    simp only [fitsF, Bool.and_eq_true, Bool.not_eq_true'] at e
    by_cases h1 : i = m
    · subst h1; exact e.2
    · exact fitsF_at (by omega) e.1
theorem fitsF_false {us : Nat → Bool} {f : Nat → Nat} : ∀ {m i : Nat}, i < m → us (f i) = true → fitsF us f m = false
  | 0, i, h, _ => by omega
  | m + 1, i, h, e => by
    simp only [fitsF]
    by_cases h1 : i = m
    · subst h1; simp [e]
    · rw [fitsF_false (by omega) e]; rfl
/-- The policy: what is taken. -/
structure Pol (PL : Nat) (us : Nat → Bool) (w : World) : Prop where
  us : ∀ x, x < 8 → w.cell? ⟨PL, 1 + x, none⟩ = some (.bool (us x))
  calls : ∃ z, w.cell? ⟨PL, 9, none⟩ = some (.int .i64 z)
  fz : ∀ o, w.frozen? ⟨PL, o, none⟩ = false
theorem Pol.lt {PL : Nat} {us : Nat → Bool} {w : World} (h : Pol PL us w) : PL < w.heap.size := lt_of_cell (h.us 0 (by decide))
theorem Pol.keep {PL : Nat} {us : Nat → Bool} {w w' : World} (h : Pol PL us w) (hb : w'.heap[PL]? = w.heap[PL]?) : Pol PL us w' := by
  have hc : ∀ o, w'.cell? ⟨PL, o, none⟩ = w.cell? ⟨PL, o, none⟩ := fun o => World.cell?_of_block (a := ⟨PL, o, none⟩) hb
  refine ⟨fun x hx => (hc _).trans (h.us x hx), ?_, fun o => (World.frozen?_of_block (a := ⟨PL, o, none⟩) hb).trans (h.fz o)⟩
  obtain ⟨z, hz⟩ := h.calls
  exact ⟨z, (hc _).trans hz⟩
theorem Pol.put {PL : Nat} {us : Nat → Bool} {w : World} (h : Pol PL us w) (x : Nat) (hx : x < 8) (b : Bool) : Pol PL (upd us x b) (w.setCell ⟨PL, 1 + x, none⟩ (.bool b)) := by
  refine ⟨fun y hy => ?_, ?_, fun o => (World.frozen?_setCell _ _ _ _).trans (h.fz o)⟩
  · by_cases e : y = x
    · subst e; rw [upd_eq]; exact World.cell?_setCell_same _ _ _ (h.us y hy)
    · rw [upd_ne _ _ e, cell_set_ne (by omega)]; exact h.us y hy
  · obtain ⟨z, hz⟩ := h.calls
    exact ⟨z, (cell_set_ne (by omega)).trans hz⟩
theorem Pol.call {PL : Nat} {us : Nat → Bool} {w : World} (h : Pol PL us w) (z : Int) : Pol PL us (w.setCell ⟨PL, 9, none⟩ (.int .i64 z)) := by
  refine ⟨fun y hy => (cell_set_ne (by omega)).trans (h.us y hy), ?_, fun o => (World.frozen?_setCell _ _ _ _).trans (h.fz o)⟩
  obtain ⟨z', hz⟩ := h.calls
  exact ⟨z, World.cell?_setCell_same _ _ _ hz⟩
theorem Pol.alloc {PL : Nat} {us : Nat → Bool} {w : World} (h : Pol PL us w) (o : Obj) : Pol PL us (w.alloc o) := h.keep (Below.heap_alloc _ _ _ h.lt)
theorem Pol.drew {PL : Nat} {us : Nat → Bool} {w : World} (h : Pol PL us w) : Pol PL us w.drew := h.keep rfl
/-- A slice of nodes. -/
structure Nds (v : Value) (m : Nat) (f : Nat → Nat) (w : World) : Prop where
  lt : ∀ i, i < m → f i < 8
  m1 : m ≤ 1024
  ex : (v = .slice none 0 0 ∧ m = 0) ∨ ∃ g c, v = .slice (some ⟨g, 0, none⟩) m c ∧ ∀ i, i < m → w.cell? ⟨g, i, none⟩ = some (.int .i64 (f i))
end Go.Proofs.Ybulkbfpk
