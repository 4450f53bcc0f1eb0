import Derived.Test.YbulkbfoiCallees
import Derived.Laws.CopyOwn
import Derived.OwnWalk
namespace Go.Proofs.Ybulkbfoi
open Go.RowKit

set_option maxRecDepth 100000 in
set_option maxHeartbeats 400000 in
theorem copy_none (TR PB : Nat) (id : Int) (v : Value) (w : World) (hT : w.cell? ⟨TR, 21, none⟩ = some (.pointer (some ⟨PB, 0, none⟩))) (hP : w.shape? PB = some (29, 68))
    (hg : Calls Yba.prog 19 #[.pointer (some ⟨PB, 0, none⟩), .int .u64 id] w fun e w' => e = .returned (.pointer none) ∧ w' = w) :
    Calls Yba.prog 10 #[.pointer (some ⟨TR, 0, none⟩), .int .u64 id, v] w fun e w' => e = .returned (.bool false) ∧ w' = w := by
  go_enter Yba.func10, Yba.ntmps10
  go_wp2_with fail
  refine (tload_any _ _ _ _ hT hP).mono ?_
  rintro e' w' ⟨rfl, rfl⟩
  go_wp2_with fail
  refine hg.mono ?_
  rintro e' w' ⟨rfl, rfl⟩
  go_wp2_with fail
  go_ret
  exact ⟨rfl, rfl⟩
set_option maxRecDepth 100000 in
set_option maxHeartbeats 400000 in
theorem copy_no (TR PB b : Nat) (id : Int) (v : Value) (w : World) (hT : w.cell? ⟨TR, 21, none⟩ = some (.pointer (some ⟨PB, 0, none⟩))) (hP : w.shape? PB = some (29, 68))
    (hg : Calls Yba.prog 19 #[.pointer (some ⟨PB, 0, none⟩), .int .u64 id] w fun e w' => e = .returned (.pointer (some ⟨b, 0, none⟩)) ∧ w' = w)
    (hf : Calls Yba.prog 20 #[.pointer (some ⟨b, 0, none⟩), .int .u64 id] w fun e w' => e = .returned (.bool false) ∧ w' = w) :
    Calls Yba.prog 10 #[.pointer (some ⟨TR, 0, none⟩), .int .u64 id, v] w fun e w' => e = .returned (.bool false) ∧ w' = w := by
  go_enter Yba.func10, Yba.ntmps10
  go_wp2_with fail
  refine (tload_any _ _ _ _ hT hP).mono ?_
  rintro e' w' ⟨rfl, rfl⟩
  go_wp2_with fail
  refine hg.mono ?_
  rintro e' w' ⟨rfl, rfl⟩
  go_wp2_with fail
  refine hf.mono ?_
  rintro e' w' ⟨rfl, rfl⟩
  go_wp2_with fail
  go_ret
  exact ⟨rfl, rfl⟩
theorem own_forms {w : World} {base size n : Nat} {e : TypeId} {v : Value} {xs : List Value} (h : w.ownsRow base e size v n xs) : (v = .slice none 0 0 ∧ n = 0) ∨ ∃ g cap, v = .slice (some ⟨g, 0, none⟩) n cap := by
  rcases h.2 with h0 | ⟨g, cap, _, hv, _⟩
  · exact Or.inl h0
  · exact Or.inr ⟨g, cap, hv⟩
theorem ownsRow_splice {B g cap n : Nat} {cur : List Value} {w w' : World} {xs cs : List Value} (h : w.ownsRow B 5 1 (.slice (some ⟨g, 0, none⟩) n cap) n xs) (hcur : w.heap[g]? = some (.cells cur.toArray 5 (0, 0)))
    (h' : w'.heap[g]? = some (.cells (splice cur 0 cs).toArray 5 (0, 0))) (hl : cs.length ≤ n) : w'.ownsRow B 5 1 (.slice (some ⟨g, 0, none⟩) n cap) n (splice xs 0 cs) := by
  obtain ⟨hx, h | ⟨g', cap', cur', he, hB, hc, hn, hm, hs, ht⟩⟩ := h
  · cases h.1
  · cases he
    rw [hcur] at hc
    obtain rfl : cur.toArray = cur' := by simpa using hc
    simp only [Nat.mul_one] at hx hs ht
    subst ht
    refine ⟨?_, .inr ⟨g, cap, _, rfl, hB, h', hn, hm, ?_, ?_⟩⟩
    · rw [length_splice] <;> simp at * <;> omega
    · simp at hs ⊢; rw [length_splice]; omega; omega
    · simp at hs ⊢
      simp only [splice, List.take_zero, List.nil_append, Nat.zero_add]
      rw [List.take_append, List.take_of_length_le (by omega), List.drop_take]

set_option maxRecDepth 100000 in
set_option maxHeartbeats 400000 in
theorem copy_yes (TR PB b B db dcap : Nat) (id : Int) (bv : Value) (n : Nat) (xs ds cs : List Value) (w : World) (hT : w.cell? ⟨TR, 21, none⟩ = some (.pointer (some ⟨PB, 0, none⟩))) (hP : w.shape? PB = some (29, 68))
    (hg : Calls Yba.prog 19 #[.pointer (some ⟨PB, 0, none⟩), .int .u64 id] w fun e w' => e = .returned (.pointer (some ⟨b, 0, none⟩)) ∧ w' = w)
    (c0 : w.cell? ⟨b, 0, none⟩ = some (.int .u64 id)) (c2 : w.cell? ⟨b, 2, none⟩ = some (.int .u32 0)) (c3 : w.cell? ⟨b, 3, none⟩ = some (.int .u32 0)) (f3 : w.frozen? ⟨b, 3, none⟩ = false)
    (c1 : w.cell? ⟨b, 1, none⟩ = some (.slice (some ⟨db, 0, none⟩) ds.length dcap)) (hbB : b < B) (hdb : b ≠ db) (hd : ∀ i v, ds[i]? = some v → w.cell? ⟨db, i, none⟩ = some v)
    (hrow : w.ownsRow B 5 1 bv n xs) (h1 : ∀ v ∈ ds, v.oneCell' = true) (hcs : cs = ds.take n) :
    Calls Yba.prog 10 #[.pointer (some ⟨TR, 0, none⟩), .int .u64 id, bv] w fun e w' => e = .returned (.bool true) ∧ Below B (w.setCell ⟨b, 3, none⟩ (.int .u32 1)) w' ∧ w'.ownsRow B 5 1 bv n (splice xs 0 cs) := by
  have hcl : cs.length = Nat.min ds.length n := by rw [hcs, List.length_take, Nat.min_comm]
  have hfo := found_yes b id w c0 c2 c3 f3
  have hcsd : Hid (∀ j v, cs[j]? = some v → (w.setCell ⟨b, 3, none⟩ (.int .u32 1)).drew.cell? ((⟨db, 0, none⟩ : Addr).add j) = some v) := by
    intro j v hj
    rw [show (⟨db, 0, none⟩ : Addr).add j = ⟨db, j, none⟩ by simp [Addr.add]; omega]
    show (w.setCell ⟨b, 3, none⟩ (.int .u32 1)).cell? ⟨db, j, none⟩ = some v
    rw [World.cell?_setCell_other _ _ _ _ (by intro h; injection h with h; exact hdb h)]
    apply hd
    rw [hcs, List.getElem?_take] at hj
    split at hj
    · exact hj
    · cases hj
  have hone : Hid (∀ v ∈ cs, v.oneCell' = true) := fun v hv => h1 v (List.mem_of_mem_take (hcs ▸ hv))
  have hlen := own_forms hrow
  have hb2 : Hid (Below B (w.setCell ⟨b, 3, none⟩ (.int .u32 1)) ((w.setCell ⟨b, 3, none⟩ (.int .u32 1)).drew)) := (Below.refl _ _).drew
  have hrow2 : (w.setCell ⟨b, 3, none⟩ (.int .u32 1)).drew.ownsRow B 5 1 bv n xs := (ownsRow_setCell_below hrow (by exact hbB) _).drew
  have c1' : (w.setCell ⟨b, 3, none⟩ (.int .u32 1)).drew.cell? ⟨b, 1, none⟩ = some (.slice (some ⟨db, 0, none⟩) ds.length dcap) := by
    show (w.setCell ⟨b, 3, none⟩ (.int .u32 1)).cell? ⟨b, 1, none⟩ = _
    rw [World.cell?_setCell_other _ _ _ _ (by simp)]
    exact c1
  obtain ⟨w2, hw2⟩ : ∃ w2, w2 = (w.setCell ⟨b, 3, none⟩ (.int .u32 1)).drew := ⟨_, rfl⟩
  rw [← hw2] at hfo hcsd hb2 hrow2 c1'
  clear hw2
  rcases hlen with ⟨rfl, hn0⟩ | ⟨g, cap, rfl⟩
  · go_enter Yba.func10, Yba.ntmps10
    go_wp2_with fail
    refine (tload_any _ _ _ _ hT hP).mono ?_
    rintro e' w' ⟨rfl, rfl⟩
    go_wp2_with fail
    refine hg.mono ?_
    rintro e' w' ⟨rfl, rfl⟩
    go_wp2_with fail
    refine hfo.mono ?_
    rintro e' w' ⟨rfl, rfl⟩
    go_wp2_with (refine wpList_copy_nothing rfl (.tmp 23) (.tmp 28) 23 23 rfl 5 Yba.underlying23 (by kernel_rfl) none (some ⟨db, 0, none⟩) 0 0 ds.length dcap rfl rfl (Nat.min_eq_right (Nat.zero_le _)) ?_)
    go_ret
    refine ⟨rfl, hb2.out, ?_⟩
    have : cs = [] := by rw [hcs, hn0, List.take_zero]
    rw [this]
    simpa [splice] using hrow2
  · have hcur : ∃ cur : List Value, w2.heap[g]? = some (.cells cur.toArray 5 (0, 0)) ∧ n ≤ cur.length ∧ B ≤ g := by
      rcases hrow2.2 with ⟨h, _⟩ | ⟨g', cap', cur', he, hB, hc, hn, hm, hs, ht⟩
      · cases h
      · cases he; exact ⟨cur'.toList, by simpa using hc, by simp; omega, hB⟩
    obtain ⟨cur, hcur, hnl, hBg⟩ := hcur
    have hcl2 : cs.length ≤ n := by rw [hcl]; exact Nat.min_le_right _ _
    go_enter Yba.func10, Yba.ntmps10
    go_wp2_with fail
    refine (tload_any _ _ _ _ hT hP).mono ?_
    rintro e' w' ⟨rfl, rfl⟩
    go_wp2_with fail
    refine hg.mono ?_
    rintro e' w' ⟨rfl, rfl⟩
    go_wp2_with fail
    refine hfo.mono ?_
    rintro e' w' ⟨rfl, rfl⟩
    go_wp2_with (refine wpList_copy_splice rfl (.tmp 23) (.tmp 28) 23 23 rfl 5 Yba.underlying23 (by kernel_rfl) (some ⟨g, 0, none⟩) (some ⟨db, 0, none⟩) n cap ds.length dcap rfl rfl g 0 cur 5 hcur cs hcl (fun _ => ⟨rfl, _, rfl, hcsd.out⟩) (by omega) hone.out B _ hb2.out hBg ?_; intro w3 hr3 hb3; revert hr3 hb3; generalize cs.length = cl; intro hr3 hb3)
    go_ret
    refine ⟨rfl, hb3, ?_⟩
    exact ownsRow_splice hrow2 hcur hr3.out hcl2
end Go.Proofs.Ybulkbfoi
