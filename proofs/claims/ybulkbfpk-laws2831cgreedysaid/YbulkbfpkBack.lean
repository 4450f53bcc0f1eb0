import Derived.Test.YbulkbfpkRound
namespace Go.Proofs.Ybulkbfpk
open Go.RowKit Go.Shelf
attribute [local go_sem] Oper.semAt_some
/-- What lay below n₀ is as it was, but for the block PL. -/
def Kq (PL n₀ : Nat) (W W' : World) : Prop := ∀ k, k < n₀ → k ≠ PL → W'.heap[k]? = W.heap[k]?
theorem Kq.refl (PL n₀ : Nat) (W : World) : Kq PL n₀ W W := fun _ _ _ => rfl
theorem Kq.trans {PL n₀ : Nat} {A B C : World} (h : Kq PL n₀ A B) (k : Kq PL n₀ B C) : Kq PL n₀ A C := fun i hi hn => (k i hi hn).trans (h i hi hn)
theorem Kq.cell {PL n₀ : Nat} {A B : World} (h : Kq PL n₀ A B) {b o : Nat} (hb : b < n₀) (hp : b ≠ PL) : B.cell? ⟨b, o, none⟩ = A.cell? ⟨b, o, none⟩ := World.cell?_of_block (a := ⟨b, o, none⟩) (h b hb hp)
theorem Kq.putObj {PL n₀ : Nat} (W : World) (l : Nat) (o' : Obj) (hl : n₀ ≤ l) : Kq PL n₀ W (W.putObj l o') := fun k hk _ => World.putObj_heap_other (by omega)
def upto {α : Type} (f : Nat → α) (k : Nat) : List α := (List.range k).map f
theorem upto_succ {α : Type} (f : Nat → α) (k : Nat) : upto f (k + 1) = upto f k ++ [f k] := by simp [upto, List.range_succ]
theorem upto_len {α : Type} (f : Nat → α) (k : Nat) : (upto f k).length = k := by simp [upto]
set_option maxHeartbeats 1000000 in
theorem bw_any (a : Option Addr) (len cap : Nat) (w : World) :
    Calls Yba.prog 23 #[.slice a len cap] w fun e w' => e = .returned (.func (.func 24) #[] #[.pointer (some ⟨w.heap.size, 0, none⟩)]) ∧ w' = w.alloc (.cells #[.slice a len cap] 23) := by
  go_enter Yba.func23, Yba.ntmps23
  go_wp2_with fail
  go_ret
  exact ⟨rfl, rfl⟩
set_option maxRecDepth 100000 in
set_option maxHeartbeats 2000000 in
theorem bw1_in {α : Type} (ev : α → Nat × Nat) (F : Fence) (n : Nat) (h24 : F.fn 24) (hro : F.round = none) (hn : 1 ≤ n) (l Bs n₀ PL b len cap : Nat) (f : Nat → α) (hlen : len ≤ 1024) (J Jx : List α → World → Prop)
    (hY : ∀ pre x W, J pre W → pre.length < len → YieldAt F (n - 1) Yba.prog l #[.int .i64 ((ev x).1 : Int), .int .i64 ((ev x).2 : Int)] W fun e W' =>
      (e = .returned (.bool true) ∧ J (pre ++ [x]) W' ∧ Kq PL n₀ W W') ∨ (e = .returned (.bool false) ∧ Jx (pre ++ [x]) W'))
    (W : World) (hBs : W.cell? ⟨Bs, 0, none⟩ = some (.slice (some ⟨b, 0, none⟩) len cap)) (hBn : Bs < n₀) (hBP : Bs ≠ PL) (hb : b < n₀) (hbP : b ≠ PL)
    (hc : ∀ k q, k + q + 1 = len → W.cell? ⟨b, q, none⟩ = some (.int .i64 ((ev (f k)).2 : Int)) ∧ (ev (f k)).1 = q) (h0 : J [] W) :
    CallsIn F n Yba.prog 24 #[.func (.yield l) #[] #[], .pointer (some ⟨Bs, 0, none⟩)] W fun e W' => (∃ v, e = .returned v) ∧
      ((∃ ys, ys = upto f len ∧ J ys W') ∨ (∃ pre, True ∧ Jx pre W')) := by
  refine callsIn_of_wp Yba.func24 rfl h24 ?_ hro
  simp only [Yba.ntmps24, List.size_toArray, List.length_cons, List.length_nil, Nat.reduceAdd, Nat.reduceSub, Array.replicate_succ, Array.replicate_zero, List.push_toArray, List.append_toArray, List.nil_append, List.cons_append]
  gi_wp2
  gi_loopw [3] (fun i wr => ∃ k r : Nat, k + r = len ∧ i = .int .i64 ((r : Int) - 1) ∧ J (upto f k) wr ∧ Kq PL n₀ W wr)
    (fun i _ => ((intOf i) + 1).toNat)
  case atStart => exact ⟨0, len, by omega, rfl, h0, Kq.refl _ _ _⟩
  case round =>
    obtain ⟨k, r, hkr, rfl, hJs, hnx⟩ := hrel
    have hB3 := (hnx.cell (o := 0) hBn hBP).trans hBs
    cases r with
    | zero =>
      gi_wp2
      go_end0
      exact ⟨⟨_, rfl⟩, .inl ⟨_, by rw [show len = k by omega], hJs⟩⟩
    | succ q =>
      obtain ⟨c1, c2⟩ := hc k q (by omega)
      have c3 := (hnx.cell (o := q) hb hbP).trans c1
      obtain ⟨fn, tmps, assign, body, hy, hR⟩ := hY _ (f k) wr hJs (by rw [upto_len]; omega)
      rw [c2] at hy
      generalize hz : (ev (f k)).2 = z at *
      have hq1 : q < len := by omega
      have hql : ((q : Nat) : Int) + 1 - 1 = q := by omega
      gi_wp2
      refine hR.mono ?_
      rintro e W3 (⟨rfl, hJ3, hk3⟩ | ⟨rfl, hJx3⟩)
      · gi_wp2
        go_roundw
        case rel => exact ⟨k + 1, q, by omega, by simp, by rw [upto_succ]; exact hJ3, hnx.trans hk3⟩
        case measure => simp [intOf]
      · gi_wp2
        refine bodyPost_ret (results_none rfl _ _ _) rfl ?_
        exact ⟨⟨_, rfl⟩, .inr ⟨_, trivial, hJx3⟩⟩
set_option maxRecDepth 100000 in
set_option maxHeartbeats 1000000 in
theorem bw1_nil {α : Type} (F : Fence) (n : Nat) (h24 : F.fn 24) (hro : F.round = none) (l Bs : Nat) (J : List α → World → Prop) (W : World) (hBs : W.cell? ⟨Bs, 0, none⟩ = some (.slice none 0 0)) (h0 : J [] W) :
    CallsIn F n Yba.prog 24 #[.func (.yield l) #[] #[], .pointer (some ⟨Bs, 0, none⟩)] W fun e W' => (∃ v, e = .returned v) ∧ J [] W' := by
  refine callsIn_of_wp Yba.func24 rfl h24 ?_ hro
  simp only [Yba.ntmps24, List.size_toArray, List.length_cons, List.length_nil, Nat.reduceAdd, Nat.reduceSub, Array.replicate_succ, Array.replicate_zero, List.push_toArray, List.append_toArray, List.nil_append, List.cons_append]
  gi_wp2
  gi_loopw [3] (fun i wr => i = .int .i64 (-1) ∧ J [] wr) (fun _ _ => 0)
  case atStart => exact ⟨rfl, h0⟩
  case round =>
    obtain ⟨rfl, hJs⟩ := hrel
    gi_wp2
    go_end0
    exact ⟨⟨_, rfl⟩, hJs⟩
theorem bw_stops {α : Type} (ev : α → Nat × Nat) (F : Fence) (n : Nat) (h24 : F.fn 24) (hro : F.round = none) (hn : 1 ≤ n) (Bs n₀ PL len : Nat) (v : Value) (f : Nat → α) (hlen : len ≤ 1024) (w : World) (hw : n₀ ≤ w.heap.size) (hBn : Bs < n₀) (hBP : Bs ≠ PL) (hc : w.cell? ⟨Bs, 0, none⟩ = some v)
    (hv : (v = .slice none 0 0 ∧ len = 0) ∨ ∃ b cap, v = .slice (some ⟨b, 0, none⟩) len cap ∧ b < n₀ ∧ b ≠ PL ∧ ∀ k q, k + q + 1 = len → w.cell? ⟨b, q, none⟩ = some (.int .i64 ((ev (f k)).2 : Int)) ∧ (ev (f k)).1 = q) :
    SeqStopsK F n Yba.prog 24 #[.pointer (some ⟨Bs, 0, none⟩)] (fun x : α => #[Value.int .i64 ((ev x).1 : Int), .int .i64 ((ev x).2 : Int)]) (Kq PL n₀) (fun ys => ys = upto f len) (fun _ => True) len w := fun l J Jx W hW _ _ hY h0 => by
  have hc' := (hW.cell (p := ⟨Bs, 0, none⟩) (by show Bs < _; omega)).trans hc
  rcases hv with ⟨rfl, rfl⟩ | ⟨b, cap, rfl, hb, hbP, hcs⟩
  · exact (bw1_nil F n h24 hro l Bs J W hc' h0).mono fun e W' ⟨he, hj⟩ => ⟨he, .inl ⟨_, rfl, hj⟩⟩
  · exact bw1_in ev F n h24 hro hn l Bs n₀ PL b len cap f hlen J Jx hY W hc' hBn hBP hb hbP (fun k q h => ⟨(hW.cell (p := ⟨b, q, none⟩) (by show b < _; omega)).trans (hcs k q h).1, (hcs k q h).2⟩) h0
end Go.Proofs.Ybulkbfpk
