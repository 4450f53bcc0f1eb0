import Derived.Test.YbulkbfmeACount
namespace Go.Proofs.Ybulkbfme
open Go.RowKit

theorem Yba.info48 : (Yba.prog.info? 48).map (fun i => (i.zero, i.size, i.bytes)) = some (some (.agg #[.int .u64 0, .int .u8 0, .int .u64 0, .int .u64 0, .int .u64 0]), 5, 40) := by kernel_rfl
theorem Yba.info56 : (Yba.prog.info? 56).map (fun i => (i.zero, i.size, i.bytes)) = some (some (.agg #[.bool false, .int .u64 0, .int .u64 0, .int .i64 0, .pointer none]), 5, 40) := by kernel_rfl

set_option maxHeartbeats 400000 in
theorem tell_status (sb base n : Nat) (i r t l p : Int) (v : Value) (xs : List Value) (w : World) (hn : n ≤ 4) (hb : base ≤ w.heap.size) (hsb : sb < base)
    (hc : w.cell? ⟨sb, 0, none⟩ = some v) (hf : w.frozen? ⟨sb, 0, none⟩ = false) (ho : w.ownsRow base 48 5 v n xs) :
    Calls Yba.prog 13 #[.agg #[.int .u64 i, .int .u8 r, .int .u64 t, .int .u64 l, .int .u64 p], .pointer (some ⟨sb, 0, none⟩)] w
      fun e w' => e = .returned (.tuple #[]) ∧ ∃ v', w'.cell? ⟨sb, 0, none⟩ = some v' ∧ w'.frozen? ⟨sb, 0, none⟩ = false ∧ w'.ownsRow base 48 5 v' (n + 1) (xs ++ [.int .u64 i, .int .u8 r, .int .u64 t, .int .u64 l, .int .u64 p]) ∧
        w'.os = w.os ∧ w'.tape = w.tape ∧ w'.output = w.output ∧ w.heap.size ≤ w'.heap.size ∧ ∀ k, k < w.heap.size → k ≠ sb → some k ≠ v.ownBlock → w'.heap[k]? = w.heap[k]? := by
  obtain ⟨i0, hi, hz0, hz1, hz2⟩ := info_parts Yba.info48
  have hs : sb < w.heap.size := by omega
  have hne : some sb ≠ v.ownBlock := fun e => by have := (ho.lt sb e.symm).1; omega
  have hca : ∀ o, (w.alloc o).cell? ⟨sb, 0, none⟩ = some v := fun o => (((Below.refl _ w).alloc (Nat.le_refl _) o).cell hs).trans hc
  go_enter Yba.func13, Yba.ntmps13
  go_wp2_with (at_builtin; refine wpList_append_own _ rfl (.tmp 3) (.tmp 5) 53 rfl base 48 i0 _ 5 40 Yba.underlying53 hi hz0 hz1 hz2 rfl (by decide) v n xs rfl ((ho.alloc _).alloc _) ⟨w.heap.size + 1, 0, none⟩ 1 1 [.int .u64 i, .int .u8 r, .int .u64 t, .int .u64 l, .int .u64 p] rfl rfl ?c1 ?c2 (by unfold maxLen; omega) (by omega) (by simp; omega) ?_)
  case c1 =>
    intro j u hj
    match j, hj with
    | 0, hj => simp at hj; subst hj; simp [Addr.add]
    | 1, hj => simp at hj; subst hj; simp [Addr.add]
    | 2, hj => simp at hj; subst hj; simp [Addr.add]
    | 3, hj => simp at hj; subst hj; simp [Addr.add]
    | 4, hj => simp at hj; subst hj; simp [Addr.add]
  case c2 => intro u hu; simp at hu; rcases hu with rfl | rfl | rfl | rfl | rfl <;> rfl
  intro v' w1 ho' hg hnil
  have hk : ∀ k, k < w.heap.size → some k ≠ v.ownBlock → w1.heap[k]? = w.heap[k]? := fun k hk hne => (hg.block k (by simp; omega) hne).trans ((Below.heap_alloc _ _ _ (by simp; omega)).trans (Below.heap_alloc _ _ _ hk))
  have hc1 : w1.cell? ⟨sb, 0, none⟩ = some v := (World.cell?_of_block (a := ⟨sb, 0, none⟩) (hk sb hs hne)).trans hc
  have hf1 : w1.frozen? ⟨sb, 0, none⟩ = false := (World.frozen?_of_block (a := ⟨sb, 0, none⟩) (hk sb hs hne)).trans hf
  have hz : w.heap.size + 2 ≤ w1.heap.size := by have := hg.size; simp at this; omega
  obtain ⟨g, cap, hv'⟩ : ∃ g cap, v' = .slice (some ⟨g, 0, none⟩) (n + 1) cap := by
    rcases ho'.2 with ⟨_, h⟩ | ⟨g, cap, cur, h, _⟩
    · omega
    · exact ⟨g, cap, h⟩
  subst hv'
  have HO : Hid (w1.ownsRow base 48 5 (.slice (some ⟨g, 0, none⟩) (n + 1) cap) (n + 1) (xs ++ [.int .u64 i, .int .u8 r, .int .u64 t, .int .u64 l, .int .u64 p])) := ho'
  have HG : Hid (w1.os = w.os ∧ w1.tape = w.tape ∧ w1.output = w.output) := ⟨hg.os, hg.tape, hg.output⟩
  have HK : Hid (∀ k, k < w.heap.size → some k ≠ v.ownBlock → w1.heap[k]? = w.heap[k]?) := hk
  clear ho' hg hk hnil hi hz0 hz1 hz2
  go_wp2
  go_end0
  refine ⟨rfl, _, ?_, ?_, ownsRow_setCell_below HO.out hsb _, HG.out.1, HG.out.2.1, HG.out.2.2, ?_, ?_⟩
  · rw [cell_set, if_pos rfl, hc1]; rfl
  · simp [hf1]
  · simp [World.setCell]; omega
  · intro k hk hks hkv
    exact (Below.heap_setCell _ _ _ _ hks).trans (HK.out k hk hkv)

set_option maxHeartbeats 400000 in
theorem tell_lead (sb base n : Nat) (b : Bool) (t wl ex : Int) (v : Value) (xs : List Value) (w : World) (hn : n ≤ 4) (hb : base ≤ w.heap.size) (hsb : sb < base)
    (hc : w.cell? ⟨sb, 0, none⟩ = some v) (hf : w.frozen? ⟨sb, 0, none⟩ = false) (ho : w.ownsRow base 56 5 v n xs) :
    Calls Yba.prog 14 #[.agg #[.bool b, .int .u64 t, .int .u64 wl, .int .i64 ex, .pointer none], .pointer (some ⟨sb, 0, none⟩)] w
      fun e w' => e = .returned (.tuple #[]) ∧ ∃ v', w'.cell? ⟨sb, 0, none⟩ = some v' ∧ w'.frozen? ⟨sb, 0, none⟩ = false ∧ w'.ownsRow base 56 5 v' (n + 1) (xs ++ [.bool b, .int .u64 t, .int .u64 wl, .int .i64 ex, .pointer none]) ∧
        w'.os = w.os ∧ w'.tape = w.tape ∧ w'.output = w.output ∧ w.heap.size ≤ w'.heap.size ∧ ∀ k, k < w.heap.size → k ≠ sb → some k ≠ v.ownBlock → w'.heap[k]? = w.heap[k]? := by
  obtain ⟨i0, hi, hz0, hz1, hz2⟩ := info_parts Yba.info56
  have hs : sb < w.heap.size := by omega
  have hne : some sb ≠ v.ownBlock := fun e => by have := (ho.lt sb e.symm).1; omega
  have hca : ∀ o, (w.alloc o).cell? ⟨sb, 0, none⟩ = some v := fun o => (((Below.refl _ w).alloc (Nat.le_refl _) o).cell hs).trans hc
  go_enter Yba.func14, Yba.ntmps14
  go_wp2_with (at_builtin; refine wpList_append_own _ rfl (.tmp 3) (.tmp 5) 54 rfl base 56 i0 _ 5 40 Yba.underlying54 hi hz0 hz1 hz2 rfl (by decide) v n xs rfl ((ho.alloc _).alloc _) ⟨w.heap.size + 1, 0, none⟩ 1 1 [.bool b, .int .u64 t, .int .u64 wl, .int .i64 ex, .pointer none] rfl rfl ?c1 ?c2 (by unfold maxLen; omega) (by omega) (by simp; omega) ?_)
  case c1 =>
    intro j u hj
    match j, hj with
    | 0, hj => simp at hj; subst hj; simp [Addr.add]
    | 1, hj => simp at hj; subst hj; simp [Addr.add]
    | 2, hj => simp at hj; subst hj; simp [Addr.add]
    | 3, hj => simp at hj; subst hj; simp [Addr.add]
    | 4, hj => simp at hj; subst hj; simp [Addr.add]
  case c2 => intro u hu; simp at hu; rcases hu with rfl | rfl | rfl | rfl | rfl <;> rfl
  intro v' w1 ho' hg hnil
  have hk : ∀ k, k < w.heap.size → some k ≠ v.ownBlock → w1.heap[k]? = w.heap[k]? := fun k hk hne => (hg.block k (by simp; omega) hne).trans ((Below.heap_alloc _ _ _ (by simp; omega)).trans (Below.heap_alloc _ _ _ hk))
  have hc1 : w1.cell? ⟨sb, 0, none⟩ = some v := (World.cell?_of_block (a := ⟨sb, 0, none⟩) (hk sb hs hne)).trans hc
  have hf1 : w1.frozen? ⟨sb, 0, none⟩ = false := (World.frozen?_of_block (a := ⟨sb, 0, none⟩) (hk sb hs hne)).trans hf
  have hz : w.heap.size + 2 ≤ w1.heap.size := by have := hg.size; simp at this; omega
  obtain ⟨g, cap, hv'⟩ : ∃ g cap, v' = .slice (some ⟨g, 0, none⟩) (n + 1) cap := by
    rcases ho'.2 with ⟨_, h⟩ | ⟨g, cap, cur, h, _⟩
    · omega
    · exact ⟨g, cap, h⟩
  subst hv'
  have HO : Hid (w1.ownsRow base 56 5 (.slice (some ⟨g, 0, none⟩) (n + 1) cap) (n + 1) (xs ++ [.bool b, .int .u64 t, .int .u64 wl, .int .i64 ex, .pointer none])) := ho'
  have HG : Hid (w1.os = w.os ∧ w1.tape = w.tape ∧ w1.output = w.output) := ⟨hg.os, hg.tape, hg.output⟩
  have HK : Hid (∀ k, k < w.heap.size → some k ≠ v.ownBlock → w1.heap[k]? = w.heap[k]?) := hk
  clear ho' hg hk hnil hi hz0 hz1 hz2
  go_wp2
  go_end0
  refine ⟨rfl, _, ?_, ?_, ownsRow_setCell_below HO.out hsb _, HG.out.1, HG.out.2.1, HG.out.2.2, ?_, ?_⟩
  · rw [cell_set, if_pos rfl, hc1]; rfl
  · simp [hf1]
  · simp [World.setCell]; omega
  · intro k hk hks hkv
    exact (Below.heap_setCell _ _ _ _ hks).trans (HK.out k hk hkv)

end Go.Proofs.Ybulkbfme
