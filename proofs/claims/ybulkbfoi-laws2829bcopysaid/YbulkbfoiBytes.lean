import Derived.Test.YbulkbfoiCopy
import Derived.Laws.AppendOwnNone
import Derived.Laws.BytesArg
import Derived.Laws.Cover3
namespace Go.Proofs.Ybulkbfoi
open Go.RowKit
/-- A slice of bytes that came in: nil, or its cells hold 'ds'. -/
def Src (w : World) (a : Option Addr) (len cap : Nat) (ds : List Int) : Prop :=
  (a = none ∧ len = 0 ∧ cap = 0 ∧ ds = []) ∨ ∃ x : Addr, a = some x ∧ ds.length = len ∧ ∀ j, j < len → w.cell? (x.add j) = some (.int .u8 (ds.getD j 0))
theorem Src.below {w w' : World} {a : Option Addr} {len cap : Nat} {ds : List Int} {B : Nat} (h : Src w a len cap ds) (hB : w.heap.size ≤ B) (hb : Below B w w') : Src w' a len cap ds := by
  rcases h with h | ⟨x, ha, hl, hc⟩
  · exact .inl h
  · exact .inr ⟨x, ha, hl, fun j hj => (hb.cell (Nat.lt_of_lt_of_le (World.block_lt_of_cell? w _ (hc j hj)) hB)).trans (hc j hj)⟩
theorem Src.length {w : World} {a : Option Addr} {len cap : Nat} {ds : List Int} (h : Src w a len cap ds) : ds.length = len := by
  rcases h with ⟨_, h, _, h'⟩ | ⟨x, ha, hl, _⟩
  · rw [h, h']; rfl
  · exact hl
theorem src_news {w : World} {x : Addr} {len : Nat} {ds : List Int} (hl : ds.length = len) (hc : ∀ j, j < len → w.cell? (x.add j) = some (.int .u8 (ds.getD j 0))) :
    ∀ j u, (ds.map (Value.int .u8))[j]? = some u → w.cell? (x.add j) = some u := by
  intro j u hj
  have hjl : j < ds.length := by
    rcases Nat.lt_or_ge j ds.length with h | h
    · exact h
    · rw [List.getElem?_eq_none (by simpa using h)] at hj; cases hj
  rw [List.getElem?_map, List.getElem?_eq_getElem hjl] at hj
  have := hc j (by omega)
  rw [List.getD_eq_getElem?_getD, List.getElem?_eq_getElem hjl] at this
  rw [this]
  simpa using hj
theorem bytes_one (ds : List Int) : ∀ u ∈ ds.map (Value.int .u8), u.oneCell' = true := by
  intro u hu
  obtain ⟨x, _, rfl⟩ := List.mem_map.1 hu
  rfl
theorem eqnil (a : Option Addr) (n c : Nat) (w : World) : (binOp .eql 23 (.slice a n c) (.slice none 0 0)).run Yba.prog w = .ok (.bool a.isNone) w := by
  simp only [binOp]
  simp [run_equal_slice_nil w 23 5 a n c Yba.underlying23]
theorem info5 : (Yba.prog.info? 5).map (fun i => (i.zero, i.size, i.bytes)) = some (some (.int .u8 0), 1, 1) := by kernel_rfl
theorem info5_parts : ∃ i, Yba.prog.info? 5 = some i ∧ i.zero = some (.int .u8 0) ∧ i.size = 1 ∧ i.bytes = 1 := by
  have := info5
  cases h : Yba.prog.info? 5 with
  | none => rw [h] at this; cases this
  | some i => rw [h] at this; simp at this; exact ⟨i, rfl, this⟩
set_option maxRecDepth 20000 in
set_option maxHeartbeats 400000 in
theorem clone_any (a : Option Addr) (len cap : Nat) (ds : List Int) (w : World) (hs : Src w a len cap ds) (hlen : len ≤ 1024) :
    Calls Yba.prog 9 #[.slice a len cap] w fun e w' => ∃ v, e = .returned v ∧ w'.ownsRow w.heap.size 5 1 v len (ds.map (.int .u8)) ∧ Below w.heap.size w w' := by
  have hq := eqnil a len cap w
  obtain ⟨i5, hi5, hz5, hs5, hb5⟩ := info5_parts
  rcases hs with ⟨rfl, rfl, rfl, rfl⟩ | ⟨x, rfl, hl, hc⟩
  · go_enter Yba.func9, Yba.ntmps9
    go_wp2
    go_ret
    exact ⟨_, rfl, World.ownsRow_nil _ _ _ _, Below.refl _ _⟩
  · have hnews : Hid (∀ j u, (ds.map (Value.int .u8))[j]? = some u → (w.alloc (.cells #[] 5)).cell? (x.add j) = some u) := by
      intro j u hj
      have := src_news hl hc j u hj
      rw [World.cell?_alloc_lt]
      · exact this
      · exact World.block_lt_of_cell? w _ this
    have hown : (w.alloc (.cells #[] 5)).ownsRow w.heap.size 5 1 (.slice (some ⟨w.heap.size, 0, none⟩) 0 0) 0 [] := World.ownsRow_made w #[] 0 (Nat.le_refl _) (Nat.zero_le _) rfl
    have hone : Hid (∀ u ∈ ds.map (Value.int .u8), u.oneCell' = true) := bytes_one ds
    obtain ⟨nw, hnw⟩ : ∃ nw, nw = ds.map (Value.int .u8) := ⟨_, rfl⟩
    rw [← hnw] at hnews hone ⊢
    have hnl : nw.length = len := by rw [hnw, List.length_map, hl]
    clear hnw
    go_enter Yba.func9, Yba.ntmps9
    go_wp2_with (at_builtin; refine wpList_append_own _ rfl (.tmp 5) (.tmp 6) 23 rfl w.heap.size 5 i5 _ 1 1 Yba.underlying23 hi5 hz5 hs5 hb5 rfl (by decide) _ 0 [] rfl hown x len cap nw rfl (by omega) hnews.out hone.out (by unfold maxLen; omega) (by omega) (by simp) ?_; intro v w' h1 h2 _)
    go_ret
    refine ⟨_, rfl, by simpa using h1, ?_⟩
    exact ((Below.refl _ _).alloc (Nat.le_refl _) _).grown h2 (by simp) (fun k hk => by cases hk; exact Nat.le_refl _)
theorem own_cells {w : World} {B g cap n : Nat} {xs : List Int} (h : w.ownsRow B 5 1 (.slice (some ⟨g, 0, none⟩) n cap) n (xs.map (.int .u8))) : xs.length = n ∧ ∀ i, i < n → w.cell? ⟨g, 0 + i, none⟩ = some (.int .u8 (xs.getD i 0)) := by
  have hl : xs.length = n := by simpa using h.1
  refine ⟨hl, fun i hi => ?_⟩
  rw [Nat.zero_add, h.cellAt i (by omega), List.getElem?_map, List.getD_eq_getElem?_getD, List.getElem?_eq_getElem (by omega)]
  rfl
theorem conv_own {w : World} {B n : Nat} {v : Value} {xs : List Int} (h : w.ownsRow B 5 1 v n (xs.map (.int .u8))) : (convert 23 9 v).run Yba.prog w = .ok (.string (strOfNums xs)) w := by
  rcases own_forms h with ⟨rfl, rfl⟩ | ⟨g, cap, rfl⟩
  · obtain rfl : xs = [] := by have := h.1; simpa using this
    exact run_convert_bytes_nil w 23 5 Yba.underlying23 Yba.underlying5 0 0 9 Yba.underlying9
  · obtain ⟨hl, hc⟩ := own_cells h
    exact run_convert_bytes_arg w 23 5 Yba.underlying23 Yba.underlying5 g 0 n cap xs hl hc 9 Yba.underlying9
set_option maxHeartbeats 400000 in
theorem equal_same {w : World} {B B' n : Nat} {v v' : Value} {xs : List Int} (h : w.ownsRow B 5 1 v n (xs.map (.int .u8))) (h' : w.ownsRow B' 5 1 v' n (xs.map (.int .u8))) :
    Calls Yba.prog 11 #[v, v'] w fun e w' => e = .returned (.bool true) ∧ w' = w := by
  have hc := conv_own h
  have hc' := conv_own h'
  obtain ⟨s, hs⟩ : ∃ s, s = strOfNums xs := ⟨_, rfl⟩
  rw [← hs] at hc hc'
  clear hs
  go_enter Yba.func11, Yba.ntmps11
  go_wp2
  go_ret
  exact ⟨rfl, rfl⟩
end Go.Proofs.Ybulkbfoi
