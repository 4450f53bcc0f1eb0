import Derived.Test.YbulkbfmeRows
import Derived.WalkKit
import Derived.WalkSpells
import Derived.WalkLawsBesides
import Derived.Deep.LoopGhost
namespace Go.Proofs.Ybulkbfme
open Go.RowKit

def addrL (q : Int) : List (Int × ByteArray) → ByteArray
  | [] => ByteArray.empty
  | m :: ms => if m.1 = q then m.2 else addrL q ms

theorem ret_string {a b : ByteArray} (h : a = b) : Ending.returned (.string a) = .returned (.string b) := by rw [h]
theorem drop_getD {L : List (Int × ByteArray)} {k : Nat} (hk : k < L.length) {m} (hm : m = L.getD k (0, ByteArray.empty)) : L.drop k = m :: L.drop (k + 1) := by
  rw [List.drop_eq_getElem_cons hk, hm]; simp [hk]
theorem addrL_hit {L : List (Int × ByteArray)} {k : Nat} {q mi : Int} {ms : ByteArray} (hk : k < L.length) (hm : (mi, ms) = L.getD k (0, ByteArray.empty)) (hq : mi = q) (h : addrL q (L.drop k) = addrL q L) : ms = addrL q L := by
  rw [← h, drop_getD hk hm]; simp [addrL, hq]
theorem addrL_miss {L : List (Int × ByteArray)} {k : Nat} {q mi : Int} {ms : ByteArray} (hk : k < L.length) (hm : (mi, ms) = L.getD k (0, ByteArray.empty)) (hq : ¬ mi = q) (h : addrL q (L.drop k) = addrL q L) : addrL q (L.drop (k + 1)) = addrL q L := by
  rw [← h, drop_getD hk hm]; simp [addrL, hq]
theorem addrL_end {L : List (Int × ByteArray)} {k : Nat} {q : Int} (hk : L.length ≤ k) (h : addrL q (L.drop k) = addrL q L) : ByteArray.empty = addrL q L := by
  rw [← h, List.drop_of_length_le hk]; rfl

set_option maxHeartbeats 400000 in
theorem addr_any (L : List (Int × ByteArray)) (g cap : Nat) (q : Int) (w : World)
    (hL : L.length ≤ 1025) (hg : g < w.heap.size)
    (h1 : ∀ i, i < L.length → w.cell? ⟨g, i * 2, none⟩ = some (.int .u64 (L.getD i (0, ByteArray.empty)).1))
    (h2 : ∀ i, i < L.length → w.cell? ⟨g, i * 2 + 1, none⟩ = some (.string (L.getD i (0, ByteArray.empty)).2)) :
    Calls Yba.prog 9 #[.agg #[.int .u64 0, .slice (some ⟨g, 0, none⟩) L.length cap, .string ByteArray.empty, .slice none 0 0, .int .u64 0, .int .i64 0, .int .i64 0, .int .u64 0, .nilFunc, .nilFunc, .nilFunc, .int .i64 0, .string ByteArray.empty, .pointer none, .nilFunc], .int .u64 q] w
      fun e w' => e = .returned (.string (addrL q L)) ∧ Below w.heap.size w w' := by
  go_enter Yba.func9, Yba.ntmps9
  go_wp2
  go_loopw [10] (fun i wr => ∃ k : Nat, k ≤ L.length ∧ i = .int .i64 k ∧ Below w.heap.size w wr ∧ addrL q (L.drop k) = addrL q L) (fun i _ => L.length - (intOf i).toNat)
  case atStart => exact ⟨0, Nat.zero_le _, rfl, (Below.refl _ _).alloc (Nat.le_refl _) _, rfl⟩
  case round =>
    obtain ⟨k, hk, rfl, hb, HA⟩ := hrel
    have HB : Hid (addrL q (L.drop k) = addrL q L) := HA
    clear HA
    by_cases hlt : k < L.length
    · have e1 : wr.cell? ⟨g, k * 2, none⟩ = some (.int .u64 (L.getD k (0, ByteArray.empty)).1) := (hb.cell hg).trans (h1 k hlt)
      have e2 : wr.cell? ⟨g, k * 2 + 1, none⟩ = some (.string (L.getD k (0, ByteArray.empty)).2) := (hb.cell hg).trans (h2 k hlt)
      obtain ⟨⟨mi, ms⟩, hm⟩ : ∃ m, m = L.getD k (0, ByteArray.empty) := ⟨_, rfl⟩
      rw [← hm] at e1 e2
      simp only at e1 e2
      have HM : Hid ((mi, ms) = L.getD k (0, ByteArray.empty)) := hm
      clear hm h1 h2
      by_cases hq : (mi == q) = true
      · go_wp2
        go_ret
        refine ⟨ret_string (addrL_hit hlt HM.out (by simpa using hq) HB.out), ?_⟩
        exact hb.trans ((Below.refl _ _).alloc (hb.size) _)
      · have hq' : (mi == q) = false := by simpa using hq
        go_wp2
        go_roundw
        case rel => exact ⟨k + 1, by omega, by go_num, hb.trans ((Below.refl _ _).alloc hb.size _), addrL_miss hlt HM.out (by simpa using hq) HB.out⟩
        case measure => simp [intOf]; omega
    · go_wp2
      go_ret
      exact ⟨ret_string (addrL_end (by omega) HB.out), hb⟩

def memL (q : Int) (L : List (Int × ByteArray)) : Bool := L.any fun m => m.1 == q

theorem memL_hit {L : List (Int × ByteArray)} {k : Nat} {q mi : Int} {ms : ByteArray} (hk : k < L.length) (hm : (mi, ms) = L.getD k (0, ByteArray.empty)) (hq : mi = q) (h : memL q (L.drop k) = memL q L) : memL q L = true := by
  rw [← h, drop_getD hk hm]; simp [memL, hq]
theorem memL_miss {L : List (Int × ByteArray)} {k : Nat} {q mi : Int} {ms : ByteArray} (hk : k < L.length) (hm : (mi, ms) = L.getD k (0, ByteArray.empty)) (hq : ¬ mi = q) (h : memL q (L.drop k) = memL q L) : memL q (L.drop (k + 1)) = memL q L := by
  rw [← h, drop_getD hk hm]; simp [memL, hq]
theorem memL_end {L : List (Int × ByteArray)} {k : Nat} {q : Int} (hk : L.length ≤ k) (h : memL q (L.drop k) = memL q L) : memL q L = false := by
  rw [← h, List.drop_of_length_le hk]; rfl

set_option maxHeartbeats 400000 in
theorem index_any (L : List (Int × ByteArray)) (g cap qb : Nat) (q : Int) (w : World)
    (hL : L.length ≤ 1025) (hg : g < w.heap.size) (hqb : qb < w.heap.size)
    (hq0 : w.cell? ⟨qb, 0, none⟩ = some (.int .u64 q))
    (h1 : ∀ i, i < L.length → w.cell? ⟨g, i * 2, none⟩ = some (.int .u64 (L.getD i (0, ByteArray.empty)).1))
    (h2 : ∀ i, i < L.length → w.cell? ⟨g, i * 2 + 1, none⟩ = some (.string (L.getD i (0, ByteArray.empty)).2)) :
    Calls Yba.prog 29 #[.slice (some ⟨g, 0, none⟩) L.length cap, .func (.func 19) #[] #[.pointer (some ⟨qb, 0, none⟩)]] w
      fun e w' => (∃ z : Int, e = .returned (.int .i64 z) ∧ (memL q L = true → 0 ≤ z) ∧ (memL q L = false → z < 0)) ∧ Below w.heap.size w w' := by
  go_enter Yba.func29, Yba.ntmps29
  go_wp2
  go_loopw [8] (fun i wr => ∃ k : Nat, k ≤ L.length ∧ i = .int .i64 k ∧ Below w.heap.size w wr ∧ memL q (L.drop k) = memL q L) (fun i _ => L.length - (intOf i).toNat)
  case atStart => exact ⟨0, Nat.zero_le _, rfl, Below.refl _ _, rfl⟩
  case round =>
    obtain ⟨k, hk, rfl, hb, HA⟩ := hrel
    have HB : Hid (memL q (L.drop k) = memL q L) := HA
    clear HA
    by_cases hlt : k < L.length
    · have e1 : wr.cell? ⟨g, k * 2, none⟩ = some (.int .u64 (L.getD k (0, ByteArray.empty)).1) := (hb.cell hg).trans (h1 k hlt)
      have e2 : wr.cell? ⟨g, k * 2 + 1, none⟩ = some (.string (L.getD k (0, ByteArray.empty)).2) := (hb.cell hg).trans (h2 k hlt)
      have e3 : wr.cell? ⟨qb, 0, none⟩ = some (.int .u64 q) := (hb.cell hqb).trans hq0
      have hqb' : qb < wr.heap.size := by have := hb.size; omega
      obtain ⟨⟨mi, ms⟩, hm⟩ : ∃ m, m = L.getD k (0, ByteArray.empty) := ⟨_, rfl⟩
      rw [← hm] at e1 e2
      simp only at e1 e2
      have HM : Hid ((mi, ms) = L.getD k (0, ByteArray.empty)) := hm
      clear hm h1 h2
      by_cases hq : (mi == q) = true
      · go_wp2
        go_ret
        refine ⟨⟨_, rfl, fun _ => by omega, fun h => ?_⟩, ?_⟩
        · exact absurd (memL_hit hlt HM.out (by simpa using hq) HB.out) (by simp [h])
        · exact hb.trans ((Below.refl _ _).alloc (hb.size) _)
      · have hq' : (mi == q) = false := by simpa using hq
        go_wp2
        go_roundw
        case rel => exact ⟨k + 1, by omega, by go_num, hb.trans ((Below.refl _ _).alloc hb.size _), memL_miss hlt HM.out (by simpa using hq) HB.out⟩
        case measure => simp [intOf]; omega
    · go_wp2
      go_ret
      refine ⟨⟨_, rfl, fun h => ?_, fun _ => by omega⟩, hb⟩
      exact absurd (memL_end (by omega) HB.out) (by simp [h])

theorem ret_bool {a b : Bool} (h : a = b) : Ending.returned (.bool a) = .returned (.bool b) := by rw [h]
theorem cell_two (w : World) (a b : Obj) {p : Addr} (h : p.block < w.heap.size) : ((w.alloc a).alloc b).cell? p = w.cell? p := by
  have hb : Below w.heap.size w ((w.alloc a).alloc b) := ((Below.refl _ _).alloc (Nat.le_refl _) _).alloc (by simp) _
  exact hb.cell h

set_option maxHeartbeats 400000 in
theorem member_any (L : List (Int × ByteArray)) (g cap : Nat) (q : Int) (w : World)
    (hL : L.length ≤ 1025) (hg : g < w.heap.size)
    (h1 : ∀ i, i < L.length → w.cell? ⟨g, i * 2, none⟩ = some (.int .u64 (L.getD i (0, ByteArray.empty)).1))
    (h2 : ∀ i, i < L.length → w.cell? ⟨g, i * 2 + 1, none⟩ = some (.string (L.getD i (0, ByteArray.empty)).2)) :
    Calls Yba.prog 10 #[.agg #[.int .u64 0, .slice (some ⟨g, 0, none⟩) L.length cap, .string ByteArray.empty, .slice none 0 0, .int .u64 0, .int .i64 0, .int .i64 0, .int .u64 0, .nilFunc, .nilFunc, .nilFunc, .int .i64 0, .string ByteArray.empty, .pointer none, .nilFunc], .int .u64 q] w
      fun e w' => e = .returned (.bool (memL q L)) ∧ Below w.heap.size w w' := by
  go_enter Yba.func10, Yba.ntmps10
  go_wp2_with (first | (go_at_call 29; refine (index_any L g cap (w.heap.size + 1) q _ hL ?_ ?_ ?_ ?_ ?_).mono ?_) | (go_at_call 18; go_in))
  · simp; omega
  · simp
  · simp
  · intro i hi; rw [cell_two _ _ _ hg]; exact h1 i hi
  · intro i hi; rw [cell_two _ _ _ hg]; exact h2 i hi
  · rintro e w' ⟨⟨z, rfl, hz1, hz2⟩, hb⟩
    have hb' : Below w.heap.size w w' := (((Below.refl _ _).alloc (Nat.le_refl _) _).alloc (by simp) _).trans (hb.mono (by simp; omega))
    clear hb h1 h2
    by_cases hm : memL q L = true
    · have := hz1 hm
      clear hz1 hz2
      go_wp2
      go_ret
      exact ⟨ret_bool (a := true) (b := memL q L) hm.symm, hb'⟩
    · have hm' : memL q L = false := by simpa using hm
      have := hz2 hm'
      clear hz1 hz2 hm
      go_wp2
      go_ret
      exact ⟨ret_bool (a := decide (0 ≤ z)) (b := memL q L) (by rw [hm']; simpa using this), hb'⟩

/-- The cells of a list of members. -/
def flat (L : List (Int × ByteArray)) : List Value := L.flatMap fun m => [.int .u64 m.1, .string m.2]
def red (small : Bool) (m : Int × ByteArray) : Int × ByteArray := (if small then m.1 % 6 else m.1, m.2)

theorem Yba.info41 : (Yba.prog.info? 41).map (fun i => (i.zero, i.size, i.bytes)) = some (some (.agg #[.int .u64 0, .string ByteArray.empty]), 2, 24) := by kernel_rfl

theorem flat_step (xs : List Value) (M : List (Int × ByteArray)) (k : Nat) (m : Int × ByteArray) (hk : k < M.length) (hx : xs.length = M.length * 2) (hm : m = M[k]) (h : xs.take (2 * k) = flat (M.take k)) :
    ((xs.set (k * 2) (.int .u64 m.1)).set (k * 2 + 1) (.string m.2)).take (2 * (k + 1)) = flat (M.take (k + 1)) := by
  have hl : ((xs.set (k * 2) (.int .u64 m.1)).set (k * 2 + 1) (.string m.2)).length = M.length * 2 := by simpa using hx
  rw [show 2 * (k + 1) = 2 * k + 1 + 1 by omega, List.take_succ_eq_append_getElem (by omega), List.take_succ_eq_append_getElem (by omega), List.take_succ_eq_append_getElem hk]
  rw [List.take_set_of_le (by omega), List.take_set_of_le (by omega), h]
  simp only [flat, List.flatMap_append, List.flatMap_cons, List.flatMap_nil, List.append_nil, List.append_assoc]
  congr 1
  subst hm
  rw [List.getElem_set_ne (by omega), List.getElem_set]
  simp [show k * 2 = 2 * k by omega]

theorem build_step {L : List (Int × ByteArray)} {small : Bool} {w wr : World} {k : Nat} {xs : List Value} {mi v : Int} {ms : ByteArray} (hlt : k < L.length)
    (hm : (mi, ms) = L.getD k (0, ByteArray.empty))
    (ho : wr.ownsRow w.heap.size 41 2 (.slice (some ⟨w.heap.size, 0, none⟩) L.length L.length) L.length xs)
    (hx : xs.take (2 * k) = flat ((L.map (red small)).take k)) (hb : Below w.heap.size w wr) (hv : v = (red small (mi, ms)).1) :
    ∃ (k' : Nat) (xs' : List Value), k' ≤ L.length ∧ Value.int .i64 ((k : Int) + 1) = .int .i64 k' ∧ ((wr.setCell ⟨w.heap.size, k * 2, none⟩ (.int .u64 v)).setCell ⟨w.heap.size, k * 2 + 1, none⟩ (.string ms)).ownsRow w.heap.size 41 2 (.slice (some ⟨w.heap.size, 0, none⟩) L.length L.length) L.length xs' ∧
      xs'.take (2 * k') = flat ((L.map (red small)).take k') ∧ Below w.heap.size w ((wr.setCell ⟨w.heap.size, k * 2, none⟩ (.int .u64 v)).setCell ⟨w.heap.size, k * 2 + 1, none⟩ (.string ms)) := by
  have o1 := (ho.stored (k * 2) (.int .u64 v)).1
  have o2 := (o1.stored (k * 2 + 1) (.string ms)).1
  refine ⟨k + 1, _, hlt, by simp, o2, ?_, (hb.setCell (Nat.le_refl _) _).setCell (Nat.le_refl _) _⟩
  have := flat_step xs (L.map (red small)) k (red small (mi, ms)) (by simpa using hlt) (by simpa using ho.1) (by simp [hm, hlt]) hx
  rw [hv]
  exact this

set_option maxHeartbeats 400000 in
theorem build_some (L : List (Int × ByteArray)) (b off cap : Nat) (small : Bool) (w : World)
    (hL : L.length ≤ 1024) (hb : b < w.heap.size)
    (h1 : ∀ i, i < L.length → w.cell? ⟨b, off + i * 2, none⟩ = some (.int .u64 (L.getD i (0, ByteArray.empty)).1))
    (h2 : ∀ i, i < L.length → w.cell? ⟨b, off + i * 2 + 1, none⟩ = some (.string (L.getD i (0, ByteArray.empty)).2)) 
    (h3 : ∀ i, i < L.length → 0 ≤ (L.getD i (0, ByteArray.empty)).1) :
    Calls Yba.prog 8 #[.slice (some ⟨b, off, none⟩) L.length cap, .bool small] w
      fun e w' => e = .returned (.slice (some ⟨w.heap.size, 0, none⟩) L.length L.length) ∧ w'.ownsRow w.heap.size 41 2 (.slice (some ⟨w.heap.size, 0, none⟩) L.length L.length) L.length (flat (L.map (red small))) ∧ Below w.heap.size w w' := by
  obtain ⟨i0, hi, hz0, hz1, hz2⟩ := info_parts Yba.info41
  go_enter Yba.func8, Yba.ntmps8
  go_wp2_with (at_make; refine wpList_make_full _ rfl _ _ 28 rfl w.heap.size 41 i0 _ 2 Yba.underlying28 hi hz0 hz1 _ _ _ _ L.length rfl rfl rfl rfl (by rw [hz2]; omega) (by unfold maxLen; omega) (Nat.le_refl _) ?_)
  intro w1 hown hgrow
  have hbel : Below w.heap.size w w1 := (Below.refl _ _).grown hgrow (Nat.le_refl _) (fun k hk => by cases hk)
  have hsz : w.heap.size < w1.heap.size := (hown.lt w.heap.size rfl).2
  have hown' : ∃ xs : List Value, w1.ownsRow w.heap.size 41 2 (.slice (some ⟨w.heap.size, 0, none⟩) L.length L.length) L.length xs := ⟨_, hown⟩
  clear hown hgrow hi hz0 hz1 hz2
  go_wp2
  go_loopw [13] (fun i wr => ∃ (k : Nat) (xs : List Value), k ≤ L.length ∧ i = .int .i64 k ∧ wr.ownsRow w.heap.size 41 2 (.slice (some ⟨w.heap.size, 0, none⟩) L.length L.length) L.length xs ∧ xs.take (2 * k) = flat ((L.map (red small)).take k) ∧ Below w.heap.size w wr) (fun i _ => L.length - (intOf i).toNat)
  case atStart => obtain ⟨xs, hx⟩ := hown'; exact ⟨0, xs, Nat.zero_le _, rfl, hx, by simp [flat], hbel⟩
  case round =>
    clear hown' hbel
    obtain ⟨k, xs, hk, rfl, hown, HA, hbel⟩ := hrel
    have HX : Hid (xs.take (2 * k) = flat ((L.map (red small)).take k)) := HA
    clear HA
    by_cases hlt : k < L.length
    · have e1 : wr.cell? ⟨b, off + k * 2, none⟩ = some (.int .u64 (L.getD k (0, ByteArray.empty)).1) := (hbel.cell hb).trans (h1 k hlt)
      have e2 : wr.cell? ⟨b, off + k * 2 + 1, none⟩ = some (.string (L.getD k (0, ByteArray.empty)).2) := (hbel.cell hb).trans (h2 k hlt)
      have e3 := h3 k hlt
      obtain ⟨⟨mi, ms⟩, hm⟩ : ∃ m, m = L.getD k (0, ByteArray.empty) := ⟨_, rfl⟩
      rw [← hm] at e1 e2 e3
      simp only at e1 e2 e3
      have HM : Hid ((mi, ms) = L.getD k (0, ByteArray.empty)) := hm
      clear hm h1 h2 h3
      obtain ⟨u0, c0⟩ : ∃ u, wr.cell? ⟨w.heap.size, k * 2, none⟩ = some u := ⟨_, (hown.cellAt (k * 2) (by omega)).trans (List.getElem?_eq_getElem (by have := hown.1; omega))⟩
      obtain ⟨u1, c1⟩ : ∃ u, wr.cell? ⟨w.heap.size, k * 2 + 1, none⟩ = some u := ⟨_, (hown.cellAt (k * 2 + 1) (by omega)).trans (List.getElem?_eq_getElem (by have := hown.1; omega))⟩
      have f0 := hown.frozenAt (k * 2)
      have f1 := hown.frozenAt (k * 2 + 1)
      have HO : Hid (wr.ownsRow w.heap.size 41 2 (.slice (some ⟨w.heap.size, 0, none⟩) L.length L.length) L.length xs) := hown
      clear hown
      cases small
      · go_wp2
        go_roundw
        case rel => exact build_step hlt HM.out HO.out HX.out hbel rfl
        case measure => simp [intOf]; omega
      · go_wp2
        go_roundw
        case rel => exact build_step hlt HM.out HO.out HX.out hbel rfl
        case measure => simp [intOf]; omega
    · go_wp2
      go_ret
      have e : k = L.length := by omega
      subst e
      have := HX.out
      rw [List.take_of_length_le (by have := hown.1; omega), List.take_of_length_le (by simp)] at this
      rw [← this]
      exact ⟨rfl, hown, hbel⟩

set_option maxHeartbeats 400000 in
theorem build_none (a : Option Addr) (cap : Nat) (small : Bool) (w : World) :
    Calls Yba.prog 8 #[.slice a 0 cap, .bool small] w
      fun e w' => e = .returned (.slice (some ⟨w.heap.size, 0, none⟩) 0 0) ∧ w'.ownsRow w.heap.size 41 2 (.slice (some ⟨w.heap.size, 0, none⟩) 0 0) 0 [] ∧ Below w.heap.size w w' := by
  obtain ⟨i0, hi, hz0, hz1, hz2⟩ := info_parts Yba.info41
  go_enter Yba.func8, Yba.ntmps8
  go_wp2_with (at_make; refine wpList_make_full _ rfl _ _ 28 rfl w.heap.size 41 i0 _ 2 Yba.underlying28 hi hz0 hz1 _ _ _ _ 0 rfl rfl rfl rfl (by rw [hz2]; omega) (by unfold maxLen; omega) (Nat.le_refl _) ?_)
  intro w1 hown hgrow
  have hbel : Below w.heap.size w w1 := (Below.refl _ _).grown hgrow (Nat.le_refl _) (fun k hk => by cases hk)
  have HO : w1.ownsRow w.heap.size 41 2 (.slice (some ⟨w.heap.size, 0, none⟩) 0 0) 0 [] := by
    obtain ⟨ys, hys⟩ : ∃ ys, ys = (madeCells (Value.agg #[Value.int IntKind.u64 0, Value.string ByteArray.empty]).cells (0 * 2)).toList := ⟨_, rfl⟩
    have hown2 : w1.ownsRow w.heap.size 41 2 (.slice (some ⟨w.heap.size, 0, none⟩) 0 0) 0 ys := by rw [hys]; exact hown
    have e2 := hown2.1
    have e3 : ys = [] := List.eq_nil_of_length_eq_zero (by simpa using e2)
    rw [e3] at hown2
    exact hown2
  clear hown hgrow hi hz0 hz1 hz2
  go_wp2
  refine wp_loop_rounds 1 ?_
  rw [rounds_succ]
  go_wp2
  go_ret
  exact ⟨rfl, HO, hbel⟩

/-- What is known of a slice of drawn members that came in. -/
def IsMs (w : World) (a : Option Addr) (L : List (Int × ByteArray)) : Prop :=
  L = [] ∨ ∃ b off, a = some ⟨b, off, none⟩ ∧ b < w.heap.size ∧
    (∀ i, i < L.length → w.cell? ⟨b, off + i * 2, none⟩ = some (.int .u64 (L.getD i (0, ByteArray.empty)).1)) ∧
    (∀ i, i < L.length → w.cell? ⟨b, off + i * 2 + 1, none⟩ = some (.string (L.getD i (0, ByteArray.empty)).2)) ∧
    (∀ i, i < L.length → 0 ≤ (L.getD i (0, ByteArray.empty)).1)

theorem build_any (L : List (Int × ByteArray)) (a : Option Addr) (cap : Nat) (small : Bool) (w : World) (hL : L.length ≤ 1024) (h : IsMs w a L) :
    Calls Yba.prog 8 #[.slice a L.length cap, .bool small] w
      fun e w' => e = .returned (.slice (some ⟨w.heap.size, 0, none⟩) L.length L.length) ∧ w'.ownsRow w.heap.size 41 2 (.slice (some ⟨w.heap.size, 0, none⟩) L.length L.length) L.length (flat (L.map (red small))) ∧ Below w.heap.size w w' := by
  rcases h with rfl | ⟨b, off, rfl, hb, h1, h2, h3⟩
  · exact build_none a cap small w
  · exact build_some L b off cap small w hL hb h1 h2 h3

theorem flat_len (M : List (Int × ByteArray)) : (flat M).length = M.length * 2 := by
  induction M with
  | nil => rfl
  | cons m M ih => simp [flat] at ih ⊢; omega

theorem flat_get (M : List (Int × ByteArray)) : ∀ i, i < M.length → (flat M)[i * 2]? = some (.int .u64 (M.getD i (0, ByteArray.empty)).1) ∧ (flat M)[i * 2 + 1]? = some (.string (M.getD i (0, ByteArray.empty)).2) := by
  induction M with
  | nil => intro i hi; simp at hi
  | cons m M ih =>
    intro i hi
    cases i with
    | zero => simp [flat]
    | succ i =>
      have := ih i (by simpa using hi)
      have e : flat (m :: M) = .int .u64 m.1 :: .string m.2 :: flat M := rfl
      rw [e, show (i + 1) * 2 = i * 2 + 1 + 1 by omega]
      simpa using this

theorem own_cells {w : World} {base g n cap : Nat} {M : List (Int × ByteArray)} (hn : M.length = n) (h : w.ownsRow base 41 2 (.slice (some ⟨g, 0, none⟩) n cap) n (flat M)) :
    (∀ i, i < n → w.cell? ⟨g, i * 2, none⟩ = some (.int .u64 (M.getD i (0, ByteArray.empty)).1)) ∧ (∀ i, i < n → w.cell? ⟨g, i * 2 + 1, none⟩ = some (.string (M.getD i (0, ByteArray.empty)).2)) :=
  ⟨fun i hi => (h.cellAt (i * 2) (by omega)).trans (flat_get M i (by omega)).1, fun i hi => (h.cellAt (i * 2 + 1) (by omega)).trans (flat_get M i (by omega)).2⟩

theorem own_below {w w' : World} {B base n : Nat} {v : Value} {xs : List Value} (h : w.ownsRow base 41 2 v n xs) (hb : Below B w w') (hv : ∀ k, v.ownBlock = some k → k < B) : w'.ownsRow base 41 2 v n xs := by
  refine ⟨h.1, ?_⟩
  rcases h.2 with hn | ⟨g, cap, cur, rfl, hg, hgg, rest⟩
  · exact .inl hn
  · exact .inr ⟨g, cap, cur, rfl, hg, (hb.block g (hv g rfl)).trans hgg, rest⟩

theorem addr_own (M : List (Int × ByteArray)) (base g n cap : Nat) (q : Int) (w : World) (hn : M.length = n) (hL : n ≤ 1025)
    (h : w.ownsRow base 41 2 (.slice (some ⟨g, 0, none⟩) n cap) n (flat M)) :
    Calls Yba.prog 9 #[.agg #[.int .u64 0, .slice (some ⟨g, 0, none⟩) n cap, .string ByteArray.empty, .slice none 0 0, .int .u64 0, .int .i64 0, .int .i64 0, .int .u64 0, .nilFunc, .nilFunc, .nilFunc, .int .i64 0, .string ByteArray.empty, .pointer none, .nilFunc], .int .u64 q] w
      fun e w' => e = .returned (.string (addrL q M)) ∧ Below w.heap.size w w' := by
  subst hn
  exact addr_any M g cap q w hL (h.lt g rfl).2 (own_cells rfl h).1 (own_cells rfl h).2

theorem member_own (M : List (Int × ByteArray)) (base g n cap : Nat) (q : Int) (w : World) (hn : M.length = n) (hL : n ≤ 1025)
    (h : w.ownsRow base 41 2 (.slice (some ⟨g, 0, none⟩) n cap) n (flat M)) :
    Calls Yba.prog 10 #[.agg #[.int .u64 0, .slice (some ⟨g, 0, none⟩) n cap, .string ByteArray.empty, .slice none 0 0, .int .u64 0, .int .i64 0, .int .i64 0, .int .u64 0, .nilFunc, .nilFunc, .nilFunc, .int .i64 0, .string ByteArray.empty, .pointer none, .nilFunc], .int .u64 q] w
      fun e w' => e = .returned (.bool (memL q M)) ∧ Below w.heap.size w w' := by
  subst hn
  exact member_any M g cap q w hL (h.lt g rfl).2 (own_cells rfl h).1 (own_cells rfl h).2
end Go.Proofs.Ybulkbfme
