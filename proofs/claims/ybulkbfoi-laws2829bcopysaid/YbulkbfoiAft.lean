import Derived.Test.YbulkbfoiEnv
namespace Go.Proofs.Ybulkbfoi
open Go.RowKit

/-- THE MEMORY behind the call of copyCached: 'us i' says whether page 'i' is marked as used. -/
structure Aft (w0 : World) (n : Nat) (ids md : Nat → Int) (ds : List Int) (fp : Nat → Option Addr) (ms us : Nat → Int) (w : World) : Prop where
  bel : Below w0.heap.size w0 w
  fc : ∀ i, i < n → w.cell? ⟨w0.heap.size + 2, i, none⟩ = some (.pointer (fp i))
  mc : ∀ i, i < n → w.cell? ⟨w0.heap.size + 3, i, none⟩ = some (.int .u8 (ms i))
  fr : ∀ i, i < n → ∀ a, fp i = some a → ∃ b, a = ⟨b, 0, none⟩ ∧ Fr w ids md ds b i (us i)
  msv : ∀ i, i < n → ids i ≠ 0 → ms i = md i
  fpv : ∀ i, i < n → ids i ≠ 0 → md i ≠ 3 → fp i ≠ none
theorem Aft.next {w0 : World} {n : Nat} {ids md : Nat → Int} {ds : List Int} {fp : Nat → Option Addr} {ms us : Nat → Int} {w w' : World} (h : Aft w0 n ids md ds fp ms us w) (hb : Below w.heap.size w w') : Aft w0 n ids md ds fp ms us w' := by
  have c : ∀ b o v, w.cell? ⟨b, o, none⟩ = some v → w'.cell? ⟨b, o, none⟩ = some v := fun b o v hh => (hb.cell (p := ⟨b, o, none⟩) (lt_of_cell hh)).trans hh
  exact ⟨h.bel.trans (hb.mono h.bel.size), fun i hi => c _ _ _ (h.fc i hi), fun i hi => c _ _ _ (h.mc i hi), fun i hi a ha => by obtain ⟨b, e, hf⟩ := h.fr i hi a ha; exact ⟨b, e, hf.next hb⟩, h.msv, h.fpv⟩
theorem Mem.aft {w0 : World} {n : Nat} {ids md : Nat → Int} {ds : List Int} {tid : Nat → Int} {tf fp : Nat → Option Addr} {ms : Nat → Int} {w : World} (h : Mem w0.heap.size w0 n ids md ds n tid tf fp ms w) : Aft w0 n ids md ds fp ms (fun _ => 0) w :=
  ⟨h.bel, h.fc, h.mc, fun i hi a ha => by obtain ⟨b, e, _, hf⟩ := h.fr i hi a ha; exact ⟨b, e, hf⟩, h.msv, fun i hi h0 h3 hc => (h.fpv i hi).1 hc ⟨hi, h0, h3⟩⟩
theorem Mem.use {w0 : World} {n : Nat} {ids md : Nat → Int} {ds : List Int} {tid : Nat → Int} {tf fp : Nat → Option Addr} {ms : Nat → Int} {w : World} (h : Mem w0.heap.size w0 n ids md ds n tid tf fp ms w) {L b : Nat} (hL : L < n) (hb : fp L = some ⟨b, 0, none⟩) : Aft w0 n ids md ds fp ms (upd (fun _ => 0) L 1) (w.setCell ⟨b, 3, none⟩ (.int .u32 1)) := by
  obtain ⟨b', e, hN, hf⟩ := h.fr L hL _ hb
  cases e
  have c : ∀ k p, k < w0.heap.size + 4 → (w.setCell ⟨b, 3, none⟩ (.int .u32 1)).cell? ⟨k, p, none⟩ = w.cell? ⟨k, p, none⟩ := fun k p hh => cell_set_ne (by omega)
  refine ⟨h.bel.setCell (show w0.heap.size ≤ b by omega) _, fun i hi => (c _ _ (by omega)).trans (h.fc i hi), fun i hi => (c _ _ (by omega)).trans (h.mc i hi), fun i hi a ha => ?_, h.msv, fun i hi h0 h3 hc => (h.fpv i hi).1 hc ⟨hi, h0, h3⟩⟩
  obtain ⟨b', e', hN', hf'⟩ := h.fr i hi a ha
  refine ⟨b', e', ?_⟩
  by_cases hi' : i = L
  · subst hi'
    rw [hb] at ha
    cases ha
    cases e'
    rw [upd_eq]
    exact hf.use
  · rw [upd_ne _ _ hi']
    refine hf'.set _ (.inr ⟨?_, fun c => by rw [hf.sh]; simp⟩)
    rintro rfl
    exact hi' (h.dist i L hi hL (by rw [ha, e', hb]) (by rw [ha]; simp))

/-- The last of the first 'n' pages that bears 'y'. -/
def IsLast (ids : Nat → Int) (n : Nat) (y : Int) (L : Nat) : Prop := L < n ∧ ids L = y ∧ y ≠ 0 ∧ ∀ i, L < i → i < n → ids i ≠ y
theorem IsLast.uniq {ids : Nat → Int} {n : Nat} {y : Int} {L L' : Nat} (h : IsLast ids n y L) (h' : IsLast ids n y L') : L = L' := by
  rcases Nat.lt_trichotomy L L' with hl | hl | hl
  · exact absurd h'.2.1 (h.2.2.2 L' hl h'.1)
  · exact hl
  · exact absurd h.2.1 (h'.2.2.2 L hl h.1)
/-- What the law wants: 'want', and where it is true page 'L'. -/
def Wants (ids md : Nat → Int) (n : Nat) (y : Int) (want : Bool) (L : Nat) : Prop :=
  (want = true → IsLast ids n y L ∧ md L = 0) ∧ (want = false → ∀ L', IsLast ids n y L' → md L' ≠ 0)
def usOf (want : Bool) (L : Nat) : Nat → Int := if want then upd (fun _ => 0) L 1 else fun _ => 0
def rowI (L : Nat) (ds : List Int) : List Int := (L + 1 : Int) :: ds
theorem rowOf_rowI (L : Nat) (ds : List Int) : rowOf L ds = (rowI L ds).map (.int .u8) := rfl
def mixI (want : Bool) (L : Nat) (ds ps : List Int) : List Int := if want then splice ps 0 ((rowI L ds).take ps.length) else ps
theorem map_splice {α β : Type} (f : α → β) (xs cs : List α) (o : Nat) : (splice xs o cs).map f = splice (xs.map f) o (cs.map f) := by simp [splice]
theorem mixI_length (want : Bool) (L : Nat) (ds ps : List Int) : (mixI want L ds ps).length = ps.length := by
  unfold mixI; split
  · rw [length_splice]; simp; omega
  · rfl
theorem own_next {w w' : World} {B n : Nat} {v : Value} {xs : List Value} (h : w.ownsRow B 5 1 v n xs) (hb : Below w.heap.size w w') : w'.ownsRow B 5 1 v n xs := by
  obtain ⟨h1, h2⟩ := h
  refine ⟨h1, h2.imp id ?_⟩
  rintro ⟨g, cap, cur, e, hB, hc, r⟩
  refine ⟨g, cap, cur, e, hB, (hb.block g ?_).trans hc, r⟩
  rcases Nat.lt_or_ge g w.heap.size with h | h
  · exact h
  · rw [Array.getElem?_eq_none h] at hc; cases hc
theorem splice_set (ps R : List Int) (i : Nat) (hi : i < ps.length) (hR : i < R.length) : (splice ps 0 (R.take i)).set i (R.getD i 0) = splice ps 0 (R.take (i + 1)) := by
  apply List.ext_getElem?
  intro k
  rw [List.getElem?_set]
  simp only [splice, List.take_zero, List.nil_append, Nat.zero_add, List.length_append, List.length_take, List.length_drop]
  rw [Nat.min_eq_left (by omega), Nat.min_eq_left (by omega)]
  have hg : R.getD i 0 = R[i] := by rw [List.getD_eq_getElem?_getD, List.getElem?_eq_getElem hR]; rfl
  by_cases h : i = k
  · subst h
    rw [if_pos rfl, if_pos (by omega), List.getElem?_append_left (by simp; omega), hg]
    simp [List.getElem?_eq_getElem hR]
  · rw [if_neg h]
    rcases Nat.lt_or_ge k i with hk | hk
    · rw [List.getElem?_append_left (by simp; omega), List.getElem?_append_left (by simp; omega)]
      simp [hk, show k < i + 1 by omega]
    · rw [List.getElem?_append_right (by simp; omega), List.getElem?_append_right (by simp; omega)]
      simp only [List.length_take, List.getElem?_drop, Nat.min_eq_left (Nat.le_of_lt hR), Nat.min_eq_left (show i + 1 ≤ R.length by omega)]
      congr 1; omega
theorem splice_zero (ps R : List Int) : splice ps 0 (R.take 0) = ps := by simp [splice]
theorem splice_end (ps R : List Int) (i : Nat) (h1 : i ≤ ps.length) (h2 : i ≤ R.length) (h : ps.length ≤ i ∨ R.length ≤ i) : splice ps 0 (R.take i) = splice ps 0 (R.take ps.length) := by
  rcases h with h | h
  · rw [show i = ps.length by omega]
  · rw [List.take_of_length_le h, List.take_of_length_le (by omega)]
theorem stored_row {w : World} {B g cap n : Nat} {ps R : List Int} {i : Nat} (h : w.ownsRow B 5 1 (.slice (some ⟨g, 0, none⟩) n cap) n ((splice ps 0 (R.take i)).map (.int .u8))) (hn : ps.length = n) (hi : i < n) (hR : i < R.length) :
    (w.setCell ⟨g, i, none⟩ (.int .u8 (R.getD i 0))).ownsRow B 5 1 (.slice (some ⟨g, 0, none⟩) n cap) n ((splice ps 0 (R.take (i + 1))).map (.int .u8)) := by
  have := (h.stored i (.int .u8 (R.getD i 0))).1
  rw [← splice_set ps R i (by omega) hR, List.map_set]
  exact this
def lastOf (ids : Nat → Int) (y : Int) : Nat → Int
  | 0 => -1
  | k + 1 => if ids k = y then (k : Int) else lastOf ids y k
theorem lastOf_spec (ids : Nat → Int) (y : Int) (h0 : y ≠ 0) : ∀ n, lastOf ids y n = -1 ∧ (∀ L', ¬ IsLast ids n y L') ∨ ∃ L' : Nat, lastOf ids y n = (L' : Int) ∧ IsLast ids n y L'
  | 0 => .inl ⟨rfl, fun L' h => by have := h.1; omega⟩
  | k + 1 => by
    unfold lastOf
    by_cases hk : ids k = y
    · rw [if_pos hk]
      exact .inr ⟨k, rfl, by omega, hk, h0, fun i h1 h2 => by omega⟩
    · rw [if_neg hk]
      rcases lastOf_spec ids y h0 k with ⟨h1, h2⟩ | ⟨L', h1, h2⟩
      · refine .inl ⟨h1, fun L' hL => ?_⟩
        have hne : L' ≠ k := by rintro rfl; exact hk hL.2.1
        exact h2 L' ⟨by have := hL.1; omega, hL.2.1, h0, fun i a b => hL.2.2.2 i a (by omega)⟩
      · refine .inr ⟨L', h1, by have := h2.1; omega, h2.2.1, h0, fun i a b => ?_⟩
        by_cases hik : i = k
        · rw [hik]; exact hk
        · exact h2.2.2.2 i a (by omega)
end Go.Proofs.Ybulkbfoi
