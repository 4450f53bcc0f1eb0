import Derived.Test.YbulkbfpkRelP
import Derived.Test.YbulkbfpkRegs
namespace Go.Proofs.Ybulkbfpk
open Go.RowKit Go.Shelf
def markL (Q : Dat) (us : Nat → Bool) (ts : List Nat) : Nat → Bool := ts.foldl (fun u t => markF u (Q.nf t) (Q.m t)) us
def pendFit (Q : Dat) : (Nat → Bool) → List Nat → Bool
  | _, [] => true
  | us, t :: ts => fitsF us (Q.nf t) (Q.m t) && pendFit Q (markF us (Q.nf t) (Q.m t)) ts
theorem markL_snoc (Q : Dat) (us : Nat → Bool) (ts : List Nat) (t : Nat) : markL Q us (ts ++ [t]) = markF (markL Q us ts) (Q.nf t) (Q.m t) := by simp [markL]
theorem pendFit_app (Q : Dat) : ∀ (ts : List Nat) (us : Nat → Bool) (r : List Nat), pendFit Q us (ts ++ r) = (pendFit Q us ts && pendFit Q (markL Q us ts) r)
  | [], us, r => by simp [pendFit, markL]
  | t :: ts, us, r => by
    simp only [List.cons_append, pendFit, pendFit_app Q ts, markL, List.foldl_cons, Bool.and_assoc]
theorem markF_eq (us : Nat → Bool) (f : Nat → Nat) : ∀ (m x : Nat), markF us f m x = (us x || decide (∃ i, i < m ∧ f i = x))
  | 0, x => by simp [markF]
  | m + 1, x => by
    simp only [markF, upd]
    by_cases e : x = f m
    · rw [if_pos e]
      have : ∃ i, i < m + 1 ∧ f i = x := ⟨m, by omega, e.symm⟩
      simp [this]
    · rw [if_neg e, markF_eq us f m x]
      have : (∃ i, i < m + 1 ∧ f i = x) ↔ (∃ i, i < m ∧ f i = x) := by
        constructor
        · rintro ⟨i, h1, h2⟩
          refine ⟨i, ?_, h2⟩
          rcases Nat.lt_or_ge i m with h | h
          · exact h
          · have : i = m := by omega
            subst this
            exact absurd h2.symm e
        · rintro ⟨i, h1, h2⟩
          exact ⟨i, by omega, h2⟩
      simp [this]
theorem unmarkF_eq (us : Nat → Bool) (f : Nat → Nat) : ∀ (m x : Nat), unmarkF us f m x = (us x && !decide (∃ i, i < m ∧ f i = x))
  | 0, x => by simp [unmarkF]
  | m + 1, x => by
    simp only [unmarkF, upd]
    by_cases e : x = f m
    · rw [if_pos e]
      have : ∃ i, i < m + 1 ∧ f i = x := ⟨m, by omega, e.symm⟩
      simp [this]
    · rw [if_neg e, unmarkF_eq us f m x]
      have : (∃ i, i < m + 1 ∧ f i = x) ↔ (∃ i, i < m ∧ f i = x) := by
        constructor
        · rintro ⟨i, h1, h2⟩
          refine ⟨i, ?_, h2⟩
          rcases Nat.lt_or_ge i m with h | h
          · exact h
          · have : i = m := by omega
            subst this
            exact absurd h2.symm e
        · rintro ⟨i, h1, h2⟩
          exact ⟨i, by omega, h2⟩
      simp [this]
theorem unmark_mark {us : Nat → Bool} {f : Nat → Nat} {m : Nat} (h : fitsF us f m = true) : unmarkF (markF us f m) f m = us := by
  funext x
  rw [unmarkF_eq, markF_eq]
  by_cases e : ∃ i, i < m ∧ f i = x
  · obtain ⟨i, h1, h2⟩ := e
    have := fitsF_at h1 h
    rw [h2] at this
    have e2 : ∃ i, i < m ∧ f i = x := ⟨i, h1, h2⟩
    simp [e2, this]
  · simp [e]
theorem unm_mark_aux (Q : Dat) : ∀ (n : Nat) (ts : List Nat) (us : Nat → Bool), ts.length = n → pendFit Q us ts = true → unmL Q (markL Q us ts) ts.reverse = us
  | 0, ts, us, hl, _ => by
    have : ts = [] := List.length_eq_zero_iff.1 hl
    subst this; rfl
  | n + 1, ts, us, hl, h => by
    obtain ⟨l, t, rfl⟩ : ∃ l t, ts = l ++ [t] := ⟨ts.dropLast, ts.getLast (by intro e; simp [e] at hl), (List.dropLast_concat_getLast (by intro e; simp [e] at hl)).symm⟩
    rw [pendFit_app] at h
    simp only [Bool.and_eq_true, pendFit, and_true] at h
    rw [markL_snoc, List.reverse_append, List.reverse_singleton]
    show unmL Q (unmarkF (markF (markL Q us l) (Q.nf t) (Q.m t)) (Q.nf t) (Q.m t)) l.reverse = us
    rw [unmark_mark h.2]
    exact unm_mark_aux Q n l us (by simpa using hl) h.1
theorem unm_mark {Q : Dat} {us : Nat → Bool} {ts : List Nat} (h : pendFit Q us ts = true) : unmL Q (markL Q us ts) ts.reverse = us := unm_mark_aux Q ts.length ts us rfl h
/-- Only the policy's and the allocations' blocks turned, and of the allocations job t's alone. -/
theorem Dyn.put {Q : Dat} {D : Bk} {us us' : Nat → Bool} {ch : Nat → Int} {ps : List Nat} {ap : Nat → Value} {w w' : World} (h : Dyn Q D us ch ps ap w) (ok : D.Ok Q.n) (hb : But [D.PL] w w') (hp : Pol D.PL us' w') {t : Nat} (ht : t < Q.n) (va : Option Addr) (vl vc : Nat) :
    Dyn Q D us' ch ps (upd ap t (.slice va vl vc)) (w'.setCells D.AL (t * 6) [.slice va vl vc, .slice none 0 0, .slice none 0 0, .int .i64 0, .int .i64 0, .int .i64 0]) := by
  have d := h.but ok hb hp
  generalize hvs : ([.slice va vl vc, .slice none 0 0, .slice none 0 0, .int .i64 0, .int .i64 0, .int .i64 0] : List Value) = vs
  have hlen : vs.length = 6 := by rw [← hvs]; rfl
  have hblk : ∀ b, b ≠ D.AL → (w'.setCells D.AL (t * 6) vs).heap[b]? = w'.heap[b]? := fun b hne => heap_setCells _ _ _ _ _ hne
  have hc : ∀ b o, b ≠ D.AL → (w'.setCells D.AL (t * 6) vs).cell? ⟨b, o, none⟩ = w'.cell? ⟨b, o, none⟩ := fun b o hne => World.cell?_of_block (a := ⟨b, o, none⟩) (hblk b hne)
  have hsz : (w'.setCells D.AL (t * 6) vs).heap.size = w'.heap.size := size_setCells _ _ _ _
  have f : Frm D w' (w'.setCells D.AL (t * 6) vs) := by
    have hB2 : But [D.AL] w' (w'.setCells D.AL (t * 6) vs) := (But.refl _ _).setCells (by simp) _ _
    exact Frm.of_but hB2 (fun k hk => by simp only [List.mem_singleton] at hk; subst hk; exact .inl mem_S.2.2.2) d.hB
  have hex : ∀ j, j < vs.length → (w'.cell? ⟨D.AL, t * 6 + j, none⟩).isSome = true := by
    intro j hj
    obtain ⟨a0, a1, a2, a3, a4, a5⟩ := d.al t ht
    rw [hlen] at hj
    match j, hj with
    | 0, _ => rw [show t * 6 + 0 = t * 6 from rfl, a0]; rfl
    | 1, _ => rw [a1]; rfl
    | 2, _ => rw [a2]; rfl
    | 3, _ => rw [a3]; rfl
    | 4, _ => rw [a4]; rfl
    | 5, _ => rw [a5]; rfl
  refine ⟨d.pol.keep (hblk _ ok.a3), (hc _ _ ok.a5).trans d.k0, (hc _ _ ok.a5).trans d.k1, (hc _ _ ok.a5).trans d.k3, (hc _ _ ok.a5).trans d.k4, ?_, fun s hs => (hc _ _ ok.a6).trans (d.cho s hs), fun s hs => ?_, fun s hs => ?_, fun b hbS o => (frz_setCells _ _ _ _ _).trans (d.fz b hbS o), d.stc.frm ok f, by rw [hsz]; exact d.hB, d.psl, d.psn⟩
  · obtain ⟨v, e1, e2⟩ := d.k5
    exact ⟨v, (hc _ _ ok.a5).trans e1, own_kept e2 fun k _ hk _ => hblk k (by have := ok.b4; omega)⟩
  · by_cases e : s = t
    · subst e
      rw [upd_eq]
      have hin := World.cell?_setCells_in D.AL vs (s * 6) w' hex
      subst hvs
      exact ⟨hin 0 (by simp), hin 1 (by simp), hin 2 (by simp), hin 3 (by simp), hin 4 (by simp), hin 5 (by simp)⟩
    · rw [upd_ne _ _ e]
      have hout : ∀ j, j < 6 → (w'.setCells D.AL (t * 6) vs).cell? ⟨D.AL, s * 6 + j, none⟩ = w'.cell? ⟨D.AL, s * 6 + j, none⟩ := fun j hj => World.cell?_setCells_out D.AL _ _ _ ⟨D.AL, s * 6 + j, none⟩ (fun _ _ => by show s * 6 + j < _ ∨ _ ≤ s * 6 + j; omega)
      have := d.al s hs
      rw [show (⟨D.AL, s * 6, none⟩ : Addr) = ⟨D.AL, s * 6 + 0, none⟩ from rfl] at this ⊢
      rw [hout 0 (by decide), hout 1 (by decide), hout 2 (by decide), hout 3 (by decide), hout 4 (by decide), hout 5 (by decide)]
      exact this
  · by_cases e : s = t
    · subst e; rw [upd_eq]; exact ⟨_, _, _, rfl⟩
    · rw [upd_ne _ _ e]; exact d.aps s hs
end Go.Proofs.Ybulkbfpk
