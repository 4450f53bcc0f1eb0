import Derived.Test.YbulkbfoiTable
namespace Go.Proofs.Ybulkbfoi
open Go.RowKit

set_option maxHeartbeats 400000 in
theorem get_miss (PB TB : Nat) (id : Int) (tid : Nat → Int) (w : World) (d : Nat)
    (p0 : w.cell? ⟨PB, 0, none⟩ = some (.slice (some ⟨TB, 0, none⟩) 32 32)) (p1 : w.cell? ⟨PB, 1, none⟩ = some (.int .i64 5))
    (ht : ∀ i, i < 32 → w.cell? ⟨TB, i * 2, none⟩ = some (.int .u64 (tid i)))
    (hf : Finds tid id d) (hn : tid ((hsh id + d) % 32) ≠ id) :
    Calls Yba.prog 19 #[.pointer (some ⟨PB, 0, none⟩), .int .u64 id] w fun e w' => e = .returned (.pointer none) ∧ w' = w := by
  have hs := slot_any PB TB id tid w d p0 p1 ht hf.1 hf.2.1 hf.2.2
  have hx := ht ((hsh id + d) % 32) (Nat.mod_lt _ (by omega))
  obtain ⟨ix, hix⟩ : ∃ ix, ix = (hsh id + d) % 32 := ⟨_, rfl⟩
  rw [← hix] at hs hx hn
  obtain ⟨x, hxe⟩ : ∃ x, x = tid ix := ⟨_, rfl⟩
  rw [← hxe] at hx hn
  have hne : (x != id) = true := by simpa using hn
  clear hix hxe
  go_enter Yba.func19, Yba.ntmps19
  go_wp2_with fail
  refine hs.mono ?_
  rintro e' w' ⟨rfl, rfl⟩
  go_wp2_with fail
  refine (load_any _ _ _ _ hx).mono ?_
  rintro e' w' ⟨rfl, rfl⟩
  go_wp2_with fail
  go_ret
  exact ⟨rfl, rfl⟩
set_option maxHeartbeats 400000 in
theorem get_hit (PB TB : Nat) (id : Int) (tid : Nat → Int) (tf : Nat → Option Addr) (w : World) (d : Nat)
    (p0 : w.cell? ⟨PB, 0, none⟩ = some (.slice (some ⟨TB, 0, none⟩) 32 32)) (p1 : w.cell? ⟨PB, 1, none⟩ = some (.int .i64 5))
    (ht : ∀ i, i < 32 → w.cell? ⟨TB, i * 2, none⟩ = some (.int .u64 (tid i)))
    (htf : ∀ i, i < 32 → w.cell? ⟨TB, i * 2 + 1, none⟩ = some (.pointer (tf i)))
    (hf : Finds tid id d) (hn : tid ((hsh id + d) % 32) = id) (p : Option Addr) (hp : tf ((hsh id + d) % 32) = p) (hsp : p = none ∨ ∃ fb, p = some ⟨fb, 0, none⟩ ∧ w.shape? fb = some (43, 39)) :
    Calls Yba.prog 19 #[.pointer (some ⟨PB, 0, none⟩), .int .u64 id] w fun e w' => e = .returned (.pointer p) ∧ w' = w := by
  have hs := slot_any PB TB id tid w d p0 p1 ht hf.1 hf.2.1 hf.2.2
  have hx := ht ((hsh id + d) % 32) (Nat.mod_lt _ (by omega))
  have hy := htf ((hsh id + d) % 32) (Nat.mod_lt _ (by omega))
  rw [hp] at hy
  rw [hn] at hx
  obtain ⟨ix, hix⟩ : ∃ ix, ix = (hsh id + d) % 32 := ⟨_, rfl⟩
  rw [← hix] at hs hx hy
  clear hix hp hn
  have hl : Calls Yba.prog 24 #[.pointer (some ⟨TB, ix * 2 + 1, none⟩)] w fun e w' => e = .returned (.pointer p) ∧ w' = w := by
    rcases hsp with rfl | ⟨fb, rfl, hsh⟩
    · exact pload_nil _ _ _ hy
    · exact pload_any _ _ _ _ hy hsh
  clear hsp hy
  go_enter Yba.func19, Yba.ntmps19
  go_wp2_with fail
  refine hs.mono ?_
  rintro e' w' ⟨rfl, rfl⟩
  go_wp2_with fail
  refine (load_any _ _ _ _ hx).mono ?_
  rintro e' w' ⟨rfl, rfl⟩
  go_wp2_with fail
  refine hl.mono ?_
  rintro e' w' ⟨rfl, rfl⟩
  go_wp2_with fail
  go_ret
  exact ⟨rfl, rfl⟩
set_option maxHeartbeats 400000 in
theorem found_no (b : Nat) (id fid ld : Int) (w : World) (c0 : w.cell? ⟨b, 0, none⟩ = some (.int .u64 fid)) (c2 : w.cell? ⟨b, 2, none⟩ = some (.int .u32 ld)) (hno : (ld != 0) = true ∨ (ld != 0) = false ∧ (fid != id) = true) :
    Calls Yba.prog 20 #[.pointer (some ⟨b, 0, none⟩), .int .u64 id] w fun e w' => e = .returned (.bool false) ∧ w' = w := by
  rcases hno with h | ⟨h, h2⟩
  · go_enter Yba.func20, Yba.ntmps20
    go_wp2_with fail
    refine (bload_any _ _ _ _ c2).mono ?_
    rintro e' w' ⟨rfl, rfl⟩
    rw [h]
    go_wp2_with fail
    go_ret
    exact ⟨rfl, rfl⟩
  · go_enter Yba.func20, Yba.ntmps20
    go_wp2_with fail
    refine (bload_any _ _ _ _ c2).mono ?_
    rintro e' w' ⟨rfl, rfl⟩
    rw [h]
    go_wp2_with fail
    go_ret
    exact ⟨rfl, rfl⟩
set_option maxHeartbeats 400000 in
theorem found_yes (b : Nat) (id : Int) (w : World) (c0 : w.cell? ⟨b, 0, none⟩ = some (.int .u64 id)) (c2 : w.cell? ⟨b, 2, none⟩ = some (.int .u32 0)) (c3 : w.cell? ⟨b, 3, none⟩ = some (.int .u32 0)) (f3 : w.frozen? ⟨b, 3, none⟩ = false) :
    Calls Yba.prog 20 #[.pointer (some ⟨b, 0, none⟩), .int .u64 id] w fun e w' => e = .returned (.bool true) ∧ w' = (w.setCell ⟨b, 3, none⟩ (.int .u32 1)).drew := by
  go_enter Yba.func20, Yba.ntmps20
  go_wp2_with fail
  refine (bload_any _ _ _ _ c2).mono ?_
  rintro e' w' ⟨rfl, rfl⟩
  rw [show ((0 : Int) != 0) = false from rfl]
  go_wp2_with fail
  refine (bload_any _ _ _ _ c3).mono ?_
  rintro e' w' ⟨rfl, rfl⟩
  rw [show ((0 : Int) != 0) = false from rfl]
  go_wp2_with fail
  refine (bstore_any _ _ _ _ c3 f3).mono ?_
  rintro e' w1 ⟨rfl, rfl⟩
  go_wp2_with fail
  go_ret
  exact ⟨rfl, rfl⟩
end Go.Proofs.Ybulkbfoi
