import Derived.Test.YbulkbfpkJm
namespace Go.Proofs.Ybulkbfpk
open Go.RowKit Go.Shelf
/-- A store into the jobs' block at job t, a store into pick or pickedNodes at t, a new block: the jobs before t are as they were. -/
theorem Bj.keep {J : JIn} {G t : Nat} {jb bb nb : Nat → Nat} {w w' : World} (h : Bj J G t jb bb nb w) (ht : t < J.n) (hb : But [G, G + 1, G + 2] w w') (hG : ∀ s, s ≠ t → ∀ j, j < 5 → w'.cell? ⟨G, s * 5 + j, none⟩ = w.cell? ⟨G, s * 5 + j, none⟩) (hGt : ∀ j, j < 5 → ∃ u, w'.cell? ⟨G, t * 5 + j, none⟩ = some u)
    (hP : ∀ s, s ≠ t → w'.cell? ⟨G + 1, s, none⟩ = w.cell? ⟨G + 1, s, none⟩) (hN : ∀ s, s ≠ t → w'.cell? ⟨G + 2, s, none⟩ = w.cell? ⟨G + 2, s, none⟩) (hf : ∀ b o, G ≤ b → b ≤ G + 2 → w'.frozen? ⟨b, o, none⟩ = w.frozen? ⟨b, o, none⟩)
    (jbt bbt nbt : Nat) (e1 : w'.cell? ⟨G, t * 5 + 1, none⟩ = some (.pointer (some ⟨jbt, 0, none⟩))) (e2 : w'.cell? ⟨G, t * 5 + 4, none⟩ = some (.slice (some ⟨bbt, 0, none⟩) (J.bn t) (J.bn t))) (e3 : w'.cell? ⟨jbt, 2, none⟩ = some (.int .i64 (if J.core t then 0 else 1)))
    (e4 : ∀ b : Nat, J.pk t = b → w'.cell? ⟨bbt, b * 3, none⟩ = some (.slice (some ⟨nbt, 0, none⟩) (J.dat.m t) (J.dat.m t))) (e5 : ∀ i, i < J.dat.m t → w'.cell? ⟨nbt, i, none⟩ = some (.int .i64 (J.dat.nf t i))) (e6 : w'.cell? ⟨G + 1, t, none⟩ = some (.int .i64 (J.pk t)))
    (e7 : w'.cell? ⟨G + 2, t, none⟩ = some (if J.picked t = true then .slice (some ⟨nbt, 0, none⟩) (J.dat.m t) (J.dat.m t) else .slice none 0 0)) (e8 : (G + 3 ≤ jbt ∧ jbt < w'.heap.size) ∧ (G + 3 ≤ bbt ∧ bbt < w'.heap.size) ∧ (G + 3 ≤ nbt ∧ nbt < w'.heap.size)) :
    Bj J G (t + 1) (upd jb t jbt) (upd bb t bbt) (upd nb t nbt) w' := by
  have hsz := hb.size
  have hc : ∀ b o u, G + 3 ≤ b → w.cell? ⟨b, o, none⟩ = some u → w'.cell? ⟨b, o, none⟩ = some u := fun b o u h1 hu => hb.cell (by simp only [List.mem_cons, List.not_mem_nil, or_false]; omega) hu
  have hs : ∀ s, s < t + 1 → s ≠ t → s < t := fun s h1 h2 => by omega
  refine ⟨fun s hs' => ?_, fun s hs' => ?_, fun s hs' j hj => ?_, fun s hs' => ?_, fun s hs' b hb' => ?_, fun s hs' i hi => ?_, fun s hs' => ?_, fun s hs' => ?_, fun b o h1 h2 => (hf b o h1 h2).trans (h.fz b o h1 h2), fun s hs' => ?_, by have := h.sz; omega⟩
  · by_cases e : s = t
    · subst e; rw [upd_eq]; exact e1
    · rw [upd_ne _ _ e, hG s e 1 (by decide)]; exact h.job s (hs s hs' e)
  · by_cases e : s = t
    · subst e; rw [upd_eq]; exact e2
    · rw [upd_ne _ _ e, hG s e 4 (by decide)]; exact h.bids s (hs s hs' e)
  · by_cases e : s = t
    · subst e; exact hGt j hj
    · rw [hG s e j hj]; exact h.ex s hs' j hj
  · by_cases e : s = t
    · subst e; rw [upd_eq]; exact e3
    · rw [upd_ne _ _ e]; exact hc _ _ _ (h.blk s (hs s hs' e)).1.1 (h.nod s (hs s hs' e))
  · by_cases e : s = t
    · subst e; rw [upd_eq, upd_eq]; exact e4 b hb'
    · rw [upd_ne _ _ e, upd_ne _ _ e]; exact hc _ _ _ (h.blk s (hs s hs' e)).2.1.1 (h.bid s (hs s hs' e) b hb')
  · by_cases e : s = t
    · subst e; rw [upd_eq]; exact e5 i hi
    · rw [upd_ne _ _ e]; exact hc _ _ _ (h.blk s (hs s hs' e)).2.2.1 (h.nds s (hs s hs' e) i hi)
  · by_cases e : s = t
    · subst e; rw [if_pos (by omega)]; exact e6
    · rw [hP s e, h.pks s hs']
      by_cases e2 : s < t
      · rw [if_pos e2, if_pos (by omega)]
      · rw [if_neg e2, if_neg (by omega)]
  · by_cases e : s = t
    · subst e
      rw [e7, upd_eq]
      by_cases hp : J.picked s = true
      · rw [if_pos hp, if_pos ⟨by omega, hp⟩]
      · rw [if_neg hp, if_neg (fun h => hp h.2)]
    · rw [hN s e, h.pns s hs', upd_ne _ _ e]
      by_cases e2 : s < t ∧ J.picked s = true
      · rw [if_pos e2, if_pos ⟨by omega, e2.2⟩]
      · rw [if_neg e2, if_neg (fun h => e2 ⟨by omega, h.2⟩)]
  · by_cases e : s = t
    · subst e; rw [upd_eq, upd_eq, upd_eq]; exact e8
    · rw [upd_ne _ _ e, upd_ne _ _ e, upd_ne _ _ e]
      obtain ⟨⟨a1, a2⟩, ⟨a3, a4⟩, a5, a6⟩ := h.blk s (hs s hs' e)
      exact ⟨⟨a1, by omega⟩, ⟨a3, by omega⟩, a5, by omega⟩
end Go.Proofs.Ybulkbfpk
