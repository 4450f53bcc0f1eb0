import Derived.Test.YbulkbfmeRows
import Derived.Test.YbulkbfmeLocks
import Derived.Conc.MuLone
import Derived.WalkKit
import Derived.WalkSpells
import Derived.WalkLawsBesides
import Derived.Laws.EntriesVeiled
import Derived.BigQuiet
import Derived.Deep.QuietTactic
import Derived.Laws.BitsAllLaws
namespace Go.Proofs.Ybulkbfme
open Go.RowKit

theorem ret_int {k : IntKind} {a b : Int} (h : a = b) : Ending.returned (.int k a) = .returned (.int k b) := by rw [h]
theorem ret_bool' {a b : Bool} (h : a = b) : Ending.returned (.bool a) = .returned (.bool b) := by rw [h]

set_option maxHeartbeats 400000 in
theorem role_any (x : Int) (w : World) (h0 : 0 ≤ x) :
    Calls Yba.prog 11 #[.int .u8 x] w fun e w' => e = .returned (.int .u8 (x % 4)) ∧ w' = w := by
  have h4 : x % 4 = 0 ∨ x % 4 = 1 ∨ x % 4 = 2 ∨ x % 4 = 3 := by omega
  rcases h4 with h | h | h | h
  all_goals
    go_enter Yba.func11, Yba.ntmps11
    go_wp2
    go_ret
    exact ⟨ret_int (by omega), rfl⟩

/-- The law's own test for a leadership that ends. -/
def endsB (ro to rs ts : Int) : Bool := ro == 2 && (rs != 2 || ts != to)

set_option maxHeartbeats 400000 in
theorem ends_any (i1 ro to l1 p1 i2 rs ts l2 p2 : Int) (w : World) :
    Calls Yba.prog 27 #[.agg #[.int .u64 i1, .int .u8 ro, .int .u64 to, .int .u64 l1, .int .u64 p1], .agg #[.int .u64 i2, .int .u8 rs, .int .u64 ts, .int .u64 l2, .int .u64 p2]] w
      fun e w' => e = .returned (.bool (endsB ro to rs ts)) ∧ w' = (w.alloc (.cells #[.int .u64 i1, .int .u8 ro, .int .u64 to, .int .u64 l1, .int .u64 p1] 48)).alloc (.cells #[.int .u64 i2, .int .u8 rs, .int .u64 ts, .int .u64 l2, .int .u64 p2] 48) := by
  cases h1 : (ro == 2)
  · go_enter Yba.func27, Yba.ntmps27
    go_wp2
    go_ret
    exact ⟨ret_bool' (by simp [endsB, h1]), rfl⟩
  · cases h2 : (rs != 2)
    · go_enter Yba.func27, Yba.ntmps27
      go_wp2
      go_ret
      exact ⟨ret_bool' (by simp [endsB, h1, h2]), rfl⟩
    · go_enter Yba.func27, Yba.ntmps27
      go_wp2
      go_ret
      exact ⟨ret_bool' (by simp [endsB, h1, h2]), rfl⟩

set_option maxHeartbeats 400000 in
theorem same_any (i r t l p : Int) (w : World) :
    Calls Yba.prog 16 #[.agg #[.int .u64 i, .int .u8 r, .int .u64 t, .int .u64 l, .int .u64 p], .agg #[.int .u64 i, .int .u8 r, .int .u64 t, .int .u64 l, .int .u64 p]] w
      fun e w' => e = .returned (.bool true) ∧ w' = (w.alloc (.cells #[.int .u64 i, .int .u8 r, .int .u64 t, .int .u64 l, .int .u64 p] 48)).alloc (.cells #[.int .u64 i, .int .u8 r, .int .u64 t, .int .u64 l, .int .u64 p] 48) := by
  go_enter Yba.func16, Yba.ntmps16
  go_wp2
  go_ret
  exact ⟨rfl, rfl⟩
theorem hide {p : Prop} (h : p) : Hid p := h
set_option maxHeartbeats 400000 in
theorem sec_any (W E : Int) (b o : Nat) (w : World) (h0 : w.cell? ⟨b, o, none⟩ = some (.int .u64 W)) (h1 : w.cell? ⟨b, o + 1, none⟩ = some (.int .i64 E)) (hW : (bits .and .u64 W 9223372036854775808 != 0) = false) :
    Calls Yba.prog 28 #[.pointer (some ⟨b, o, none⟩)] w fun e w' => e = .returned (.int .i64 E) ∧ w' = w := by
  go_enter Yba.func28, Yba.ntmps28
  go_wp2
  go_ret
  exact ⟨rfl, rfl⟩
set_option maxHeartbeats 400000 in
theorem nsec_fn (W : Int) (b o : Nat) (w : World) (h0 : w.cell? ⟨b, o, none⟩ = some (.int .u64 W)) :
    Calls Yba.prog 21 #[.pointer (some ⟨b, o, none⟩)] w fun e w' => e = .returned (.int .i32 (wrap32 (bits BinOp.and IntKind.u64 W 1073741823))) ∧ w' = w := by
  go_enter Yba.func21, Yba.ntmps21
  go_wp2
  go_ret
  exact ⟨rfl, rfl⟩

theorem or_zero (n : Int) (h0 : 0 ≤ n) (h1 : n < 1073741824) : bits .or .u64 0 n = n := by
  rw [u64_or 0 n (by omega) (by omega) h0 (by omega)]
  simp
  omega
theorem no_mono (n : Int) (h0 : 0 ≤ n) (h1 : n < 1073741824) : (bits .and .u64 n 9223372036854775808 != 0) = false := by
  rw [u64_and n 9223372036854775808 h0 (by omega) (by omega) (by omega)]
  have e : n.toNat &&& (9223372036854775808 : Int).toNat = 0 := by
    have : (9223372036854775808 : Int).toNat = 2 ^ 63 := by decide
    rw [this, nat_bit]
    have : n.toNat / 2 ^ 63 = 0 := Nat.div_eq_of_lt (by omega)
    rw [this, Nat.zero_mod, Nat.zero_mul]
  rw [e]
  rfl

set_option maxHeartbeats 400000 in
theorem addSec_any (b o : Nat) (W E d : Int) (w : World) (h0 : w.cell? ⟨b, o, none⟩ = some (.int .u64 W)) (h1 : w.cell? ⟨b, o + 1, none⟩ = some (.int .i64 E)) (f1 : w.frozen? ⟨b, o + 1, none⟩ = false)
    (hW : (bits .and .u64 W 9223372036854775808 != 0) = false) :
    Calls Yba.prog 22 #[.pointer (some ⟨b, o, none⟩), .int .i64 d] w fun e w' => e = .returned (.tuple #[]) ∧ ∃ E' : Int, w' = w.setCell ⟨b, o + 1, none⟩ (.int .i64 E') := by
  go_enter Yba.func22, Yba.ntmps22
  go_wp2
  all_goals
    go_end0
    exact ⟨rfl, _, rfl⟩

theorem and_self64 (n : Int) (h0 : 0 ≤ n) (h1 : n < 1073741824) : bits .and .u64 n n = n := by
  rw [u64_and n n h0 (by omega) h0 (by omega), Nat.and_self]
  omega

set_option maxHeartbeats 400000 in
theorem equal_any (W E : Int) (w : World) (h0 : 0 ≤ W) (h1 : W < 1073741824) : Calls Yba.prog 17 #[.agg #[.int .u64 W, .int .i64 E, .pointer none], .agg #[.int .u64 W, .int .i64 E, .pointer none]] w
    fun e w' => e = .returned (.bool true) ∧ w' = (w.alloc (.cells #[.int .u64 W, .int .i64 E, .pointer none] 51)).alloc (.cells #[.int .u64 W, .int .i64 E, .pointer none] 51) := by
  have hn := no_mono W h0 h1
  have hs := and_self64 W h0 h1
  go_enter Yba.func17, Yba.ntmps17
  go_wp2_with (first | (go_at_call 28; refine (sec_any W E _ _ _ (by simp) (by simp) hn).mono ?_; rintro e w' ⟨rfl, rfl⟩) | (go_at_call 21; refine (nsec_fn W _ _ _ (by simp)).mono ?_; rintro e w' ⟨rfl, rfl⟩))
  go_ret
  exact ⟨rfl, rfl⟩

set_option maxHeartbeats 400000 in
theorem add_any (d : Int) (w : World) (hd1 : -9223372036854775808 ≤ d) (hd2 : d ≤ 9223372036854775807) : Calls Yba.prog 12 #[.agg #[.int .u64 0, .int .i64 0, .pointer none], .int .i64 d] w
    fun e w' => (∃ W E : Int, e = .returned (.agg #[.int .u64 W, .int .i64 E, .pointer none]) ∧ 0 ≤ W ∧ W < 1073741824) ∧ Below w.heap.size w w' := by
  have hb0 : bits .and .u64 0 1073741823 = 0 := by rw [u64_and _ _ (by omega) (by omega) (by omega) (by omega)]; rfl
  have hb1 : bits .andNot .u64 0 1073741823 = 0 := by rw [u64_andNot _ _ (by omega) (by omega) (by omega) (by omega)]; rfl
  have t1 := Int.lt_tmod_of_pos d (b := 1000000000) (by omega)
  have t2 := Int.tmod_lt_of_pos d (b := 1000000000) (by omega)
  have t3 := Int.mul_tdiv_add_tmod d 1000000000
  obtain ⟨q, hq, q1, q2⟩ : ∃ q, d.tdiv 1000000000 = q ∧ -9223372037 ≤ q ∧ q ≤ 9223372037 := ⟨_, rfl, by omega, by omega⟩
  obtain ⟨r, hr, r1, r2⟩ : ∃ r, d.tmod 1000000000 = r ∧ -1000000000 < r ∧ r < 1000000000 := ⟨_, rfl, t1, t2⟩
  clear t1 t2 t3
  by_cases hneg : r < 0
  · have o1 := or_zero (r + 1000000000) (by omega) (by omega)
    have n1 := no_mono (r + 1000000000) (by omega) (by omega)
    go_enter Yba.func12, Yba.ntmps12
    go_wp2_with (first | (go_at_call 21; go_in) | (go_at_call 22; refine (addSec_any _ _ (r + 1000000000) 0 _ _ (by simp) (by simp) (by simp) n1).mono ?_; rintro e w' ⟨rfl, E', rfl⟩))
    exact bodyPost_ret (v := .agg #[.int .u64 (r + 1000000000), .int .i64 E', .pointer none]) (by simp [results, Yba.results12, go_sem]) rfl ⟨⟨_, _, rfl, by omega, by omega⟩, ((Below.refl _ _).alloc (Nat.le_refl _) _).alloc (by simp) _⟩
  · have o1 := or_zero r (by omega) (by omega)
    have n1 := no_mono r (by omega) (by omega)
    go_enter Yba.func12, Yba.ntmps12
    go_wp2_with (first | (go_at_call 21; go_in) | (go_at_call 22; refine (addSec_any _ _ r 0 _ _ (by simp) (by simp) (by simp) n1).mono ?_; rintro e w' ⟨rfl, E', rfl⟩))
    exact bodyPost_ret (v := .agg #[.int .u64 r, .int .i64 E', .pointer none]) (by simp [results, Yba.results12, go_sem]) rfl ⟨⟨_, _, rfl, by omega, by omega⟩, ((Below.refl _ _).alloc (Nat.le_refl _) _).alloc (by simp) _⟩
end Go.Proofs.Ybulkbfme
