import Derived.Test.YbulkbfmeASmall
namespace Go.Proofs.Ybulkbfme
open Go.RowKit
set_option linter.unusedSimpArgs false

/-- All that lay there but the blocks of S is as it was. -/
structure But (S : List Nat) (w w' : World) : Prop where
  os : w'.os = w.os
  tape : w'.tape = w.tape
  output : w'.output = w.output
  size : w.heap.size ≤ w'.heap.size
  block : ∀ k, k < w.heap.size → k ∉ S → w'.heap[k]? = w.heap[k]?

theorem But.trans {S : List Nat} {a b c : World} (h : But S a b) (k : But S b c) : But S a c :=
  ⟨k.os.trans h.os, k.tape.trans h.tape, k.output.trans h.output, Nat.le_trans h.size k.size, fun i hi hs => (k.block i (Nat.lt_of_lt_of_le hi h.size) hs).trans (h.block i hi hs)⟩
theorem But.of_below {S : List Nat} {w W : World} (h : Below w.heap.size w W) : But S w W := ⟨h.os, h.tape, h.output, h.size, fun k hk _ => h.block k hk⟩
theorem But.setCell {S : List Nat} {w W : World} (h : But S w W) {p : Addr} (hp : p.block ∈ S) (v : Value) : But S w (W.setCell p v) :=
  ⟨h.os, h.tape, h.output, by simpa [World.setCell] using h.size, fun k hk hs => (Below.heap_setCell _ _ _ _ (fun e => hs (by rw [e]; exact hp))).trans (h.block k hk hs)⟩
theorem But.drewN {S : List Nat} {w W : World} (h : But S w W) (n : Nat) : But S w (W.drewN n) := by
  induction n with
  | zero => exact h
  | succ n ih => exact ⟨ih.os, ih.tape, ih.output, ih.size, ih.block⟩
theorem But.alloc {S : List Nat} {w W : World} (h : But S w W) (o : Obj) : But S w (W.alloc o) :=
  h.trans (But.of_below ((Below.refl _ _).alloc (Nat.le_refl _) _))

theorem cell_set (W : World) (b o o' : Nat) (v : Value) : (W.setCell ⟨b, o, none⟩ v).cell? ⟨b, o', none⟩ = if o' = o then (W.cell? ⟨b, o, none⟩).map (fun _ => v) else W.cell? ⟨b, o', none⟩ := by
  by_cases h : o' = o
  · subst h
    rw [if_pos rfl]
    cases hc : W.cell? ⟨b, o', none⟩ with
    | none => 
      simp only [World.setCell, World.cell?, Array.getElem?_modify] at hc ⊢
      cases hb : W.heap[b]? with
      | none => simp
      | some ob => 
        rw [hb] at hc
        cases ob <;> simp_all
    | some u => rw [World.cell?_setCell_same W ⟨b, o', none⟩ v hc]; rfl
  · rw [if_neg h, World.cell?_setCell_other W ⟨b, o, none⟩ ⟨b, o', none⟩ v (by intro e; exact h (Addr.mk.inj e).2.1.symm)]
theorem below4 (w : World) (a b c d : Obj) : Below w.heap.size w ((((w.alloc a).alloc b).alloc c).alloc d) :=
  ((((Below.refl _ _).alloc (Nat.le_refl _) _).alloc (by simp) _).alloc (by simp; omega) _).alloc (by simp; omega) _
def chOf (ch kn l : Int) : Int := if l != 0 && l != kn then IntKind.u64.wrap (ch + 1) else ch
def knOf (kn l : Int) : Int := if l != 0 && l != kn then l else kn
def lsOf (ls : Int) (b : Bool) : Int := if b then IntKind.u64.wrap (ls + 1) else ls

set_option maxHeartbeats 400000 in
theorem count_any (nb : Nat) (i1 ro to l1 p1 i2 rs ts l2 p2 ch ls kn : Int) (w : World) (hnb : nb < w.heap.size)
    (c39 : w.cell? ⟨nb, 39, none⟩ = some (.int .u64 ch)) (c41 : w.cell? ⟨nb, 41, none⟩ = some (.int .u64 ls)) (c44 : w.cell? ⟨nb, 44, none⟩ = some (.int .u64 kn)) (f : ∀ o, w.frozen? ⟨nb, o, none⟩ = false) :
    Calls Yba.prog 25 #[.pointer (some ⟨nb, 0, none⟩), .agg #[.int .u64 i1, .int .u8 ro, .int .u64 to, .int .u64 l1, .int .u64 p1], .agg #[.int .u64 i2, .int .u8 rs, .int .u64 ts, .int .u64 l2, .int .u64 p2]] w
      fun e w' => e = .returned (.tuple #[]) ∧ w'.cell? ⟨nb, 39, none⟩ = some (.int .u64 (chOf ch kn l2)) ∧ w'.cell? ⟨nb, 41, none⟩ = some (.int .u64 (lsOf ls (endsB rs ts ro to))) ∧ w'.cell? ⟨nb, 44, none⟩ = some (.int .u64 (knOf kn l2)) ∧
        (∀ o, o ≠ 39 → o ≠ 41 → o ≠ 44 → w'.cell? ⟨nb, o, none⟩ = w.cell? ⟨nb, o, none⟩) ∧ (∀ o, w'.frozen? ⟨nb, o, none⟩ = false) ∧ But [nb] w w' := by
  have hc4 : ∀ a b c d o, ((((w.alloc a).alloc b).alloc c).alloc d).cell? ⟨nb, o, none⟩ = w.cell? ⟨nb, o, none⟩ := fun a b c d o => (below4 w a b c d).cell hnb
  have hf4 : ∀ a b c d o, ((((w.alloc a).alloc b).alloc c).alloc d).frozen? ⟨nb, o, none⟩ = false := fun a b c d o => ((below4 w a b c d).frozen hnb).trans (f o)
  cases he : endsB rs ts ro to
  all_goals cases h1 : (l2 != 0)
  case false.false =>
    go_enter Yba.func25, Yba.ntmps25
    go_wp2_with (go_at_call 27; refine (ends_any _ _ _ _ _ _ _ _ _ _ _).mono ?_; rw [he]; rintro e w' ⟨rfl, rfl⟩)
    go_quiet (fail)
    go_wp2
    go_end0
    refine ⟨rfl, ?_, ?_, ?_, ?_, ?_, ?_⟩
    · simp [cell_set, c39, chOf, h1, hc4]
    · simp [cell_set, c41, lsOf, hc4]
    · simp [cell_set, c44, knOf, h1, hc4]
    · intro o o1 o2 o3; simp [cell_set, hc4, o1, o2, o3]
    · intro o; simp [hf4]
    · repeat (first | exact But.of_below (Below.refl _ _) | refine But.setCell ?_ (by simp) _ | refine But.drewN ?_ _ | refine But.alloc ?_ _)
  case false.true =>
    cases h2 : (l2 != kn)
    all_goals
      go_enter Yba.func25, Yba.ntmps25
      go_wp2_with (go_at_call 27; refine (ends_any _ _ _ _ _ _ _ _ _ _ _).mono ?_; rw [he]; rintro e w' ⟨rfl, rfl⟩)
      go_quiet (fail)
      go_wp2
      go_end0
      refine ⟨rfl, ?_, ?_, ?_, ?_, ?_, ?_⟩
      · simp [cell_set, c39, chOf, h1, h2, hc4]
      · simp [cell_set, c41, lsOf, hc4]
      · simp [cell_set, c44, knOf, h1, h2, hc4]
      · intro o o1 o2 o3; simp [cell_set, hc4, o1, o2, o3]
      · intro o; simp [hf4]
      · repeat (first | exact But.of_below (Below.refl _ _) | refine But.setCell ?_ (by simp) _ | refine But.drewN ?_ _ | refine But.alloc ?_ _)
  case true.false =>
    go_enter Yba.func25, Yba.ntmps25
    go_wp2_with (go_at_call 27; refine (ends_any _ _ _ _ _ _ _ _ _ _ _).mono ?_; rw [he]; rintro e w' ⟨rfl, rfl⟩)
    go_quiet (fail)
    go_wp2
    go_end0
    refine ⟨rfl, ?_, ?_, ?_, ?_, ?_, ?_⟩
    · simp [cell_set, c39, chOf, h1, hc4]
    · simp [cell_set, c41, lsOf, hc4]
    · simp [cell_set, c44, knOf, h1, hc4]
    · intro o o1 o2 o3; simp [cell_set, hc4, o1, o2, o3]
    · intro o; simp [hf4]
    · repeat (first | exact But.of_below (Below.refl _ _) | refine But.setCell ?_ (by simp) _ | refine But.drewN ?_ _ | refine But.alloc ?_ _)
  case true.true =>
    cases h2 : (l2 != kn)
    all_goals
      go_enter Yba.func25, Yba.ntmps25
      go_wp2_with (go_at_call 27; refine (ends_any _ _ _ _ _ _ _ _ _ _ _).mono ?_; rw [he]; rintro e w' ⟨rfl, rfl⟩)
      go_quiet (fail)
      go_wp2
      go_end0
      refine ⟨rfl, ?_, ?_, ?_, ?_, ?_, ?_⟩
      · simp [cell_set, c39, chOf, h1, h2, hc4]
      · simp [cell_set, c41, lsOf, hc4]
      · simp [cell_set, c44, knOf, h1, h2, hc4]
      · intro o o1 o2 o3; simp [cell_set, hc4, o1, o2, o3]
      · intro o; simp [hf4]
      · repeat (first | exact But.of_below (Below.refl _ _) | refine But.setCell ?_ (by simp) _ | refine But.drewN ?_ _ | refine But.alloc ?_ _)
end Go.Proofs.Ybulkbfme
