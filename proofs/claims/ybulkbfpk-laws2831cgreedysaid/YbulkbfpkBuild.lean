import Derived.Test.YbulkbfpkBd
namespace Go.Proofs.Ybulkbfpk
open Go.RowKit
/-- The timeline, its instants written and j of its cursors. -/
structure Bt (I : Inp) (P : Ptrs) (A : Arg) (N CU j : Nat) (w : World) : Prop where
  inst : ∀ i, i < I.n → ∀ j, j < 14 → w.cell? ⟨N + 2, i * 14 + j, none⟩ = some (I.ic P (I.rom i) i j)
  atms : ∀ i, i < I.n → w.cell? ⟨N + 1, i, none⟩ = some (.int .i64 (I.atm i))
  h6 : w.cell? ⟨N, 6, none⟩ = some (.slice (some ⟨N + 1, 0, none⟩) I.n I.n)
  h7 : w.cell? ⟨N, 7, none⟩ = some (.slice (some ⟨N + 2, 0, none⟩) I.n I.n)
  h8 : w.cell? ⟨N, 8, none⟩ = some (.slice (some ⟨CU, 0, none⟩) A.c A.c)
  kd : w.cell? ⟨N, 74, none⟩ = some (.bool I.kd)
  spare : ∀ i, i < 4 → w.cell? ⟨N, pos i, none⟩ = some (.slice none 0 0)
  fz : ∀ b o, N ≤ b → b ≤ N + 2 → w.frozen? ⟨b, o, none⟩ = false
  fzC : ∀ o, w.frozen? ⟨CU, o, none⟩ = false
  curs : ∀ i, i < A.c → w.cell? ⟨CU, i * 7 + 1, none⟩ = some (.int .i64 (if i < j then A.c0 i else 0))
  sg : ∀ i, i < I.n → (P.gp i = none ∧ I.sm i = 0) ∨ ∃ GB, P.gp i = some ⟨GB, 0, none⟩ ∧ N + 3 ≤ GB ∧ GB < w.heap.size ∧ GB ≠ CU ∧ ∀ j, j < I.sm i → w.cell? ⟨GB, j * 4, none⟩ = some (.int .i64 0) ∧ w.cell? ⟨GB, j * 4 + 1, none⟩ = some (.int .i64 0) ∧ w.cell? ⟨GB, j * 4 + 2, none⟩ = some (.int .i32 0) ∧ w.cell? ⟨GB, j * 4 + 3, none⟩ = some (.int .i32 (I.sv i j))
  sz : N + 3 ≤ CU
  cu : CU < w.heap.size
theorem pos_ne8 : ∀ i, i < 4 → pos i ≠ 8 := by decide
theorem Bt.start {I : Inp} {P : Ptrs} {N : Nat} {w : World} (h : Bq I P N I.n w) (A : Arg) {C : Array Value} (hC : ∀ k, k < A.c → C[k * 7 + 1]? = some (.int .i64 0)) :
    Bt I P A N w.heap.size 0 ((w.setCell ⟨N, 8, none⟩ (.slice (some ⟨w.heap.size, 0, none⟩) A.c A.c)).alloc (.cells C 89)) := by
  have hsz := h.sz
  generalize hw1 : w.setCell ⟨N, 8, none⟩ (.slice (some ⟨w.heap.size, 0, none⟩) A.c A.c) = w1
  have s1 : w1.heap.size = w.heap.size := by rw [← hw1]; simp [World.setCell]
  have hb := newBlock w1 (.cells C 89)
  rw [s1] at hb
  have hc : ∀ b o, b < w.heap.size → ¬ (b = N ∧ o = 8) → (w1.alloc (.cells C 89)).cell? ⟨b, o, none⟩ = w.cell? ⟨b, o, none⟩ := fun b o h1 h2 => by
    rw [World.cell?_alloc_lt _ _ _ (show b < w1.heap.size by omega), ← hw1]
    exact cell_set_ne h2
  have hf : ∀ b o, b < w.heap.size → (w1.alloc (.cells C 89)).frozen? ⟨b, o, none⟩ = w.frozen? ⟨b, o, none⟩ := fun b o h1 => by
    rw [World.frozen?_of_block (a := ⟨b, o, none⟩) (w := w1) (Below.heap_alloc _ _ _ (by show b < w1.heap.size; omega)), ← hw1]
    exact World.frozen?_setCell _ _ _ _
  refine ⟨fun i hi j hj => ?_, fun i hi => ?_, (hc _ _ (by omega) (by omega)).trans h.h6, (hc _ _ (by omega) (by omega)).trans h.h7, ?_, (hc _ _ (by omega) (by omega)).trans h.kd, fun i hi => (hc _ _ (by omega) (by have := pos_ne8 i hi; omega)).trans (h.spare i hi), fun b o h1 h2 => (hf b o (by omega)).trans (h.fz b o h1 h2), frozen_at hb, fun i hi => ?_, fun i hi => ?_, hsz, by simp [s1]⟩
  · rw [hc _ _ (by omega) (by omega), h.inst i hi j hj, if_pos hi]
  · rw [hc _ _ (by omega) (by omega), h.atms i hi, if_pos hi]
  · rw [World.cell?_alloc_lt _ _ _ (show N < w1.heap.size by omega), ← hw1]
    exact World.cell?_setCell_same _ _ _ h.h8
  · rw [cells_at hb]; simpa using hC i hi
  · rcases h.sg i hi with h | ⟨GB, e, h1, h2, h3⟩
    · exact .inl h
    · refine .inr ⟨GB, e, h1, by simp [s1]; omega, by omega, fun j hj => ?_⟩
      rw [hc _ _ h2 (by omega), hc _ _ h2 (by omega), hc _ _ h2 (by omega), hc _ _ h2 (by omega)]
      exact h3 j hj
theorem Bt.put {I : Inp} {P : Ptrs} {A : Arg} {N CU j : Nat} {w : World} (h : Bt I P A N CU j w) (hj : j < A.c) : Bt I P A N CU (j + 1) (w.setCell ⟨CU, j * 7 + 1, none⟩ (.int .i64 (A.c0 j))).drew := by
  have hc : ∀ b o, b ≠ CU → (w.setCell ⟨CU, j * 7 + 1, none⟩ (.int .i64 (A.c0 j))).drew.cell? ⟨b, o, none⟩ = w.cell? ⟨b, o, none⟩ := fun b o h1 => cell_set_ne (fun e => h1 e.1)
  have hf : ∀ b o, (w.setCell ⟨CU, j * 7 + 1, none⟩ (.int .i64 (A.c0 j))).drew.frozen? ⟨b, o, none⟩ = w.frozen? ⟨b, o, none⟩ := fun b o => World.frozen?_setCell _ _ _ _
  have hs := h.sz
  have hz : (w.setCell ⟨CU, j * 7 + 1, none⟩ (.int .i64 (A.c0 j))).drew.heap.size = w.heap.size := by simp [World.setCell]
  refine ⟨fun i hi j hj => (hc _ _ (by omega)).trans (h.inst i hi j hj), fun i hi => (hc _ _ (by omega)).trans (h.atms i hi), (hc _ _ (by omega)).trans h.h6, (hc _ _ (by omega)).trans h.h7, (hc _ _ (by omega)).trans h.h8, (hc _ _ (by omega)).trans h.kd, fun i hi => (hc _ _ (by omega)).trans (h.spare i hi), fun b o h1 h2 => (hf b o).trans (h.fz b o h1 h2), fun o => (hf _ o).trans (h.fzC o), fun i hi => ?_, fun i hi => ?_, hs, by rw [hz]; exact h.cu⟩
  · by_cases e : i = j
    · subst e
      rw [if_pos (by omega)]
      exact World.cell?_setCell_same _ _ _ (h.curs i hi)
    · refine (cell_set_ne (by omega)).trans ((h.curs i hi).trans ?_)
      by_cases e2 : i < j
      · rw [if_pos e2, if_pos (by omega)]
      · rw [if_neg e2, if_neg (by omega)]
  · rcases h.sg i hi with h | ⟨GB, e, h1, h2, h4, h3⟩
    · exact .inl h
    · refine .inr ⟨GB, e, h1, by rw [hz]; exact h2, h4, fun j hj => ?_⟩
      rw [hc _ _ h4, hc _ _ h4, hc _ _ h4, hc _ _ h4]
      exact h3 j hj
def BuildPost (I : Inp) (A : Arg) (w : World) (e : Ending) (w' : World) : Prop := e = .returned (.pointer (some ⟨w.heap.size, 0, none⟩)) ∧ Below w.heap.size w w' ∧ ∃ P CU, Bt I P A w.heap.size CU A.c w'
theorem lt_of_block {w : World} {b : Nat} {o : Obj} (h : w.heap[b]? = some o) : b < w.heap.size := by
  rcases Nat.lt_or_ge b w.heap.size with h1 | h1
  · exact h1
  · rw [Array.getElem?_eq_none h1] at h; cases h
def Inp.inb (I : Inp) (A : Arg) (k : Nat) : Array Value := #[.int .u8 (I.st k), .int .u8 (I.en k), .int .i64 (I.atm k), .int .i64 (I.rom k), .int .i64 (I.fre k), .int .i32 (I.opn k), .int .i32 (I.dev k), .int .i32 (I.cor k), .slice (A.sa k) (I.sm k) (A.sc k)]
def Inp.atb (I : Inp) (k : Nat) (v0 v1 v11 : Value) : Array Value := #[v0, v1, .int .i64 (I.fre k), .int .i64 (I.rom k), .int .i64 0, .int .i32 (I.opn k), .int .i32 (I.dev k), .int .i32 0, .int .i32 0, .int .i32 (I.cor k), .bool false, v11, .int .i64 0, .slice none 0 0]
/-- Inside a round: what lay there is as it was; 'in' is block M, 'at' block M + 1. -/
def Rnd (I : Inp) (A : Arg) (k M : Nat) (wr w2 : World) (v0 v1 v11 : Value) : Prop :=
  Below M wr w2 ∧ w2.heap[M]? = some (.cells (I.inb A k) 26) ∧ w2.heap[M + 1]? = some (.cells (I.atb k v0 v1 v11) 86)
/-- Where the sightings of instant k lie. -/
def Gp (I : Inp) (N k : Nat) (c : Option Addr) (w : World) : Prop := (c = none ∧ I.sm k = 0) ∨ ∃ GB, c = some ⟨GB, 0, none⟩ ∧ N + 3 ≤ GB ∧ GB < w.heap.size ∧ ∀ j, j < I.sm k → w.cell? ⟨GB, j * 4, none⟩ = some (.int .i64 0) ∧ w.cell? ⟨GB, j * 4 + 1, none⟩ = some (.int .i64 0) ∧ w.cell? ⟨GB, j * 4 + 2, none⟩ = some (.int .i32 0) ∧ w.cell? ⟨GB, j * 4 + 3, none⟩ = some (.int .i32 (I.sv k j))
/-- The sightings, j of them written. -/
def Gq (I : Inp) (k GB j : Nat) (w : World) : Prop := GB < w.heap.size ∧ (∀ o, w.frozen? ⟨GB, o, none⟩ = false) ∧ ∀ i, i < I.sm k → w.cell? ⟨GB, i * 4, none⟩ = some (.int .i64 0) ∧ w.cell? ⟨GB, i * 4 + 1, none⟩ = some (.int .i64 0) ∧ w.cell? ⟨GB, i * 4 + 2, none⟩ = some (.int .i32 0) ∧ w.cell? ⟨GB, i * 4 + 3, none⟩ = some (.int .i32 (if i < j then I.sv k i else 0))
theorem Gq.start {I : Inp} {k GB : Nat} {x : World} {C : Array Value} (hx : x.heap.size = GB) (hC : ∀ i, i < I.sm k → C[i * 4]? = some (.int .i64 0) ∧ C[i * 4 + 1]? = some (.int .i64 0) ∧ C[i * 4 + 2]? = some (.int .i32 0) ∧ C[i * 4 + 3]? = some (.int .i32 0)) : Gq I k GB 0 (x.alloc (.cells C 123)) := by
  have hb := newBlock x (.cells C 123)
  rw [hx] at hb
  refine ⟨by simp [hx], frozen_at hb, fun i hi => ?_⟩
  rw [cells_at hb, cells_at hb, cells_at hb, cells_at hb]
  simpa using hC i hi
theorem Gq.put {I : Inp} {k GB j : Nat} {x : World} (h : Gq I k GB j x) (hj : j < I.sm k) : Gq I k GB (j + 1) (x.setCell ⟨GB, j * 4 + 3, none⟩ (.int .i32 (I.sv k j))).drew := by
  refine ⟨by simpa [World.setCell] using h.1, fun o => (World.frozen?_setCell _ _ _ _).trans (h.2.1 o), fun i hi => ?_⟩
  obtain ⟨a0, a1, a2, a3⟩ := h.2.2 i hi
  refine ⟨(cell_set_ne (by omega)).trans a0, (cell_set_ne (by omega)).trans a1, (cell_set_ne (by omega)).trans a2, ?_⟩
  by_cases e : i = j
  · subst e
    rw [if_pos (by omega)]
    exact World.cell?_setCell_same _ _ _ a3
  · refine (cell_set_ne (by omega)).trans (a3.trans ?_)
    by_cases e2 : i < j
    · rw [if_pos e2, if_pos (by omega)]
    · rw [if_neg e2, if_neg (by omega)]
theorem Gq.done {I : Inp} {k GB : Nat} {x : World} (h : Gq I k GB (I.sm k) x) : ∀ i, i < I.sm k → x.cell? ⟨GB, i * 4, none⟩ = some (.int .i64 0) ∧ x.cell? ⟨GB, i * 4 + 1, none⟩ = some (.int .i64 0) ∧ x.cell? ⟨GB, i * 4 + 2, none⟩ = some (.int .i32 0) ∧ x.cell? ⟨GB, i * 4 + 3, none⟩ = some (.int .i32 (I.sv k i)) := by
  intro i hi
  obtain ⟨a0, a1, a2, a3⟩ := h.2.2 i hi
  rw [if_pos hi] at a3
  exact ⟨a0, a1, a2, a3⟩
theorem Bq.same {I : Inp} {P : Ptrs} {N k : Nat} {w w' : World} (h : Bq I P N k w) (e : w'.heap = w.heap) : Bq I P N k w' := by
  have hc : ∀ a, w'.cell? a = w.cell? a := fun a => by simp [World.cell?, e]
  have hf : ∀ a, w'.frozen? a = w.frozen? a := fun a => by simp [World.frozen?, e]
  obtain ⟨a1, a2, a3, a4, a5, a6, a7, a8, a9, a10⟩ := h
  refine ⟨?_, ?_, ?_, ?_, ?_, ?_, ?_, ?_, ?_, ?_⟩
  all_goals simp only [hc, hf, e]
  all_goals assumption
def Inp.atl (I : Inp) (k : Nat) (sp ep gp : Option Addr) : List Value := [.slice sp (I.s k) (I.s k), .slice ep (I.e k) (I.e k), .int .i64 (I.fre k), .int .i64 (I.rom k), .int .i64 0, .int .i32 (I.opn k), .int .i32 (I.dev k), .int .i32 0, .int .i32 0, .int .i32 (I.cor k), .bool false, .slice gp (I.sm k) (I.sm k), .int .i64 0, .slice none 0 0]
theorem Bq.put2L {I : Inp} {P : Ptrs} {N k : Nat} {w : World} (h : Bq I P N k w) (hk : k < I.n) (a b c : Option Addr) (hc : Gp I N k c w) (vs : List Value) (hl : vs.length = 14) (hv : ∀ j (hj : j < vs.length), vs[j] = I.ic (P.put k a b c) (I.rom k) k j) :
    Bq I (P.put k a b c) N (k + 1) (((w.setCell ⟨N + 1, k, none⟩ (.int .i64 (I.atm k))).setCells (N + 2) (k * 14) vs).drew.drew) :=
  (h.put hk a b c hc vs hl hv).same rfl
theorem Bq.put2 {I : Inp} {P : Ptrs} {N k : Nat} {w : World} (h : Bq I P N k w) (hk : k < I.n) (a b c : Option Addr) (hc : Gp I N k c w) :
    Bq I (P.put k a b c) N (k + 1) (((w.setCell ⟨N + 1, k, none⟩ (.int .i64 (I.atm k))).setCells (N + 2) (k * 14) (I.atl k a b c)).drew.drew) := by
  refine h.put2L hk a b c hc (I.atl k a b c) rfl (fun j hj => ?_)
  have e1 : (P.put k a b c).sp k = a := upd_eq _ _ _
  have e2 : (P.put k a b c).ep k = b := upd_eq _ _ _
  have e3 : (P.put k a b c).gp k = c := upd_eq _ _ _
  have hj' : j < 14 := by simpa [Inp.atl] using hj
  match j, hj' with
  | 0, _ => simp [Inp.ic, Inp.atl, e1]
  | 1, _ => simp [Inp.ic, Inp.atl, e2]
  | 11, _ => simp [Inp.ic, Inp.atl, e3]
  | 2, _ | 3, _ | 4, _ | 5, _ | 6, _ | 7, _ | 8, _ | 9, _ | 10, _ | 12, _ | 13, _ => rfl
theorem below_setCells {m : Nat} {w : World} {b : Nat} : ∀ {W : World}, Below m w W → m ≤ b → ∀ (vs : List Value) (o : Nat), Below m w (W.setCells b o vs)
  | _, h, _, [], _ => h
  | _, h, hb, v :: r, o => below_setCells (h.setCell hb v) hb r (o + 1)
section
variable {I : Inp} {A : Arg} {k M : Nat} {wr w2 : World} {v0 v1 v11 : Value}
theorem Rnd.start (I : Inp) (A : Arg) (k : Nat) (wr : World) : Rnd I A k wr.heap.size wr ((wr.alloc (.cells (I.inb A k) 26)).alloc (.cells (I.atb k (.slice none 0 0) (.slice none 0 0) (.slice none 0 0)) 86)) (.slice none 0 0) (.slice none 0 0) (.slice none 0 0) := by
  refine ⟨((Below.refl _ _).alloc (Nat.le_refl _) _).alloc (by simp) _, ?_, ?_⟩
  · rw [Below.heap_alloc _ _ _ (by simp)]; exact newBlock _ _
  · have := newBlock (wr.alloc (.cells (I.inb A k) 26)) (.cells (I.atb k (.slice none 0 0) (.slice none 0 0) (.slice none 0 0)) 86)
    rwa [show (wr.alloc (.cells (I.inb A k) 26)).heap.size = wr.heap.size + 1 by simp] at this
theorem Rnd.alloc (h : Rnd I A k M wr w2 v0 v1 v11) (o : Obj) : Rnd I A k M wr (w2.alloc o) v0 v1 v11 := by
  have s0 := lt_of_block h.2.1
  have s1 := lt_of_block h.2.2
  exact ⟨h.1.alloc (by omega) o, (Below.heap_alloc _ _ _ s0).trans h.2.1, (Below.heap_alloc _ _ _ s1).trans h.2.2⟩
theorem Rnd.drew (h : Rnd I A k M wr w2 v0 v1 v11) : Rnd I A k M wr w2.drew v0 v1 v11 := ⟨h.1.drew, h.2.1, h.2.2⟩
theorem Rnd.set0 (h : Rnd I A k M wr w2 v0 v1 v11) (v : Value) : Rnd I A k M wr (w2.setCell ⟨M + 1, 0, none⟩ v) v v1 v11 :=
  ⟨h.1.setCell (by show M ≤ M + 1; omega) v, (Below.heap_setCell _ _ _ _ (by show M ≠ M + 1; omega)).trans h.2.1, heap_setCell_same w2 (M + 1) 0 _ 86 v h.2.2⟩
theorem Rnd.set1 (h : Rnd I A k M wr w2 v0 v1 v11) (v : Value) : Rnd I A k M wr (w2.setCell ⟨M + 1, 1, none⟩ v) v0 v v11 :=
  ⟨h.1.setCell (by show M ≤ M + 1; omega) v, (Below.heap_setCell _ _ _ _ (by show M ≠ M + 1; omega)).trans h.2.1, heap_setCell_same w2 (M + 1) 1 _ 86 v h.2.2⟩
theorem Rnd.set11 (h : Rnd I A k M wr w2 v0 v1 v11) (v : Value) : Rnd I A k M wr (w2.setCell ⟨M + 1, 11, none⟩ v) v0 v1 v :=
  ⟨h.1.setCell (by show M ≤ M + 1; omega) v, (Below.heap_setCell _ _ _ _ (by show M ≠ M + 1; omega)).trans h.2.1, heap_setCell_same w2 (M + 1) 11 _ 86 v h.2.2⟩
/-- A store into another block of the round's own. -/
theorem Rnd.setOther (h : Rnd I A k M wr w2 v0 v1 v11) {b o : Nat} (hb : M + 1 < b) (v : Value) : Rnd I A k M wr (w2.setCell ⟨b, o, none⟩ v) v0 v1 v11 :=
  ⟨h.1.setCell (by show M ≤ b; omega) v, (Below.heap_setCell _ _ _ _ (by show M ≠ b; omega)).trans h.2.1, (Below.heap_setCell _ _ _ _ (by show M + 1 ≠ b; omega)).trans h.2.2⟩
end
set_option maxRecDepth 100000 in
set_option maxHeartbeats 2000000 in
theorem tail6 (I : Inp) (A : Arg) (w : World) (P0 : Ptrs) (u3 u4 u5 u9 u10 u11 u12 u13 u14 u15 u16 u17 u18 u19 u20 u21 u22 u23 u24 u25 u26 u27 u28 u29 u30 u31 u32 u33 u34 u35 u36 u37 u38 u39 u40 u41 u42 u43 u44 u45 u46 u47 u48 u49 u50 u51 u52 u53 u54 u55 u56 u57 u58 u59 u60 u61 u62 u63 u64 u65 u66 u67 u68 u69 u70 u71 u72 u73 u74 u75 u76 u77 u78 u79 u80 u81 u82 u83 u84 u85 u86 u87 u88 u89 u90 u91 u92 u93 u94 u95 u96 u97 u98 u99 u100 u101 u102 u103 u104 u105 u106 u107 u108 u109 u110 u111 u112 u113 u114 u115 u116 u117 u118 u119 u120 u121 u122 u123 u124 u125 u126 u127 u128 u129 u130 u131 u132 u133 : Value) (wx : World) (E : Env I A w) (hb : Bq I P0 w.heap.size I.n wx) (hbel : Below w.heap.size w wx) :
    Code.wp Yba.prog ((Yba.f5.body.bind (dropS 6)).getD .skip) (bodyPost Yba.prog Yba.f5 fun e w' => BuildPost I A w e w') ⟨#[.slice (some ⟨A.ab, A.ao, none⟩) I.n A.acap, .slice A.a1 A.c A.ccap, .bool I.kd, u3, u4, u5, .pointer none, .int .i64 I.n, .pointer (some ⟨w.heap.size, 0, none⟩), u9, u10, u11, u12, u13, u14, u15, u16, u17, u18, u19, u20, u21, u22, u23, u24, u25, u26, u27, u28, u29, u30, u31, u32, u33, u34, u35, u36, u37, u38, u39, u40, u41, u42, u43, u44, u45, u46, u47, u48, u49, u50, u51, u52, u53, u54, u55, u56, u57, u58, u59, u60, u61, u62, u63, u64, u65, u66, u67, u68, u69, u70, u71, u72, u73, u74, u75, u76, u77, u78, u79, u80, u81, u82, u83, u84, u85, u86, u87, u88, u89, u90, u91, u92, u93, u94, u95, u96, u97, u98, u99, u100, u101, u102, u103, u104, u105, u106, u107, u108, u109, u110, u111, u112, u113, u114, u115, u116, u117, u118, u119, u120, u121, u122, u123, u124, u125, u126, u127, u128, u129, u130, u131, u132, u133], []⟩ wx := by
  conv => arg 2; whnf
  let Q' : Exit → Act → World → Prop := (bodyPost Yba.prog Yba.f5 fun e w' => BuildPost I A w e w')
  show Code.wp Yba.prog _ Q' _ _
  have i8 := hb.h8
  have fz := fun o => hb.fz w.heap.size o (Nat.le_refl _) (by omega)
  have hwx := hbel.size
  have hlx : w.heap.size < wx.heap.size := by have := hb.sz; omega
  have hsz := hb.sz
  obtain ⟨C, hC0, hC⟩ := make37 A.c E.c1 wx
  have HC0 := hide hC0
  have HB := hide (show _ ∧ _ from ⟨hb, hbel⟩)
  have hc1 := E.c1
  clear hC0 hb hbel
  refine seq_cut fun J K hJ hK => ?_
  go_wp2_with (at_make; refine wpList_make_eq rfl 37 _ _ rfl _ hC ?_)
  refine Met.intro (hJ.out _ _ ?_)
  clear hJ
  have B0 := Bt.start HB.out.1 A HC0.out
  have L0 := (HB.out.2.setCell (p := ⟨w.heap.size, 8, none⟩) (by show _ ≤ w.heap.size; omega) (.slice (some ⟨wx.heap.size, 0, none⟩) A.c A.c)).alloc (by simpa [World.setCell] using hwx) (.cells C 89)
  generalize hw2 : ((wx.setCell ⟨w.heap.size, 8, none⟩ (.slice (some ⟨wx.heap.size, 0, none⟩) A.c A.c)).alloc (.cells C 89)) = w2 at *
  clear hw2 HC0 i8 fz hC HB
  generalize hcu : wx.heap.size = CU at *
  have HB0 := hide (show _ ∧ _ from ⟨B0, L0⟩)
  clear B0 L0 hcu
  go_wp2_with fail
  go_loopw [15] (fun iv wr => ∃ j : Nat, j ≤ A.c ∧ iv = .int .i64 j ∧ Bt I P0 A w.heap.size CU j wr ∧ Below w.heap.size w wr) (fun iv _ => A.c - (intOf iv).toNat)
  case atStart => exact ⟨0, Nat.zero_le _, rfl, HB0.out.1, HB0.out.2⟩
  case round =>
    obtain ⟨j, hj, rfl, Bj, Lj⟩ := hrel
    have HJ := hide (show _ ∧ _ from ⟨Bj, Lj⟩)
    have i8 := Bj.h8
    have fC := Bj.fzC
    by_cases hlt : j < A.c
    · obtain ⟨b, o, e1, hbl, hcs⟩ : ∃ b o, A.a1 = some ⟨b, o, none⟩ ∧ b < w.heap.size ∧ ∀ i, i < A.c → w.cell? ⟨b, o + i, none⟩ = some (.int .i64 (A.c0 i)) := by
        rcases E.cur with h | h
        · omega
        · exact h
      have cc := Bj.curs j hlt
      have ci := (World.cell?_of_block (a := ⟨b, o + j, none⟩) (Lj.block b hbl)).trans (hcs j hlt)
      have He := hide (show _ ∧ _ from ⟨e1, hcs⟩)
      clear hcs Bj Lj
      rw [e1]
      go_wp2_with fail
      go_region
      all_goals go_wp2_with fail
      case roundEnd => exact ⟨⟨j + 1, by omega, by simp, HJ.out.1.put hlt, (HJ.out.2.setCell (p := ⟨CU, j * 7 + 1, none⟩) (by show _ ≤ CU; omega) _).drew⟩, by simp [intOf]; omega⟩
    · have hje : j = A.c := by omega
      subst hje
      clear Bj Lj
      go_wp2_with fail
      go_ret
      exact ⟨rfl, HJ.out.2, P0, CU, HJ.out.1⟩

set_option maxRecDepth 100000 in
set_option maxHeartbeats 2000000 in
theorem tail5 (I : Inp) (A : Arg) (w : World) (P0 : Ptrs) (u3 u4 u5 u9 u10 u11 u12 u13 u14 u15 u16 u17 u18 u19 u20 u21 u22 u23 u24 u25 u26 u27 u28 u29 u30 u31 u32 u33 u34 u35 u36 u37 u38 u39 u40 u41 u42 u43 u44 u45 u46 u47 u48 u49 u50 u51 u52 u53 u54 u55 u56 u57 u58 u59 u60 u61 u62 u63 u64 u65 u66 u67 u68 u69 u70 u71 u72 u73 u74 u75 u76 u77 u78 u79 u80 u81 u82 u83 u84 u85 u86 u87 u88 u89 u90 u91 u92 u93 u94 u95 u96 u97 u98 u99 u100 u101 u102 u103 u104 u105 u106 u107 u108 u109 u110 u111 u112 u113 u114 u115 u116 u117 u118 u119 u120 u121 u122 u123 u124 u125 u126 u127 u128 u129 u130 u131 u132 u133 : Value) (wx : World) (E : Env I A w) (hb : Bq I P0 w.heap.size 0 wx) (hbel : Below w.heap.size w wx) :
    Code.wp Yba.prog ((Yba.f5.body.bind (dropS 5)).getD .skip) (bodyPost Yba.prog Yba.f5 fun e w' => BuildPost I A w e w') ⟨#[.slice (some ⟨A.ab, A.ao, none⟩) I.n A.acap, .slice A.a1 A.c A.ccap, .bool I.kd, u3, u4, u5, .pointer none, .int .i64 I.n, .pointer (some ⟨w.heap.size, 0, none⟩), u9, u10, u11, u12, u13, u14, u15, u16, u17, u18, u19, u20, u21, u22, u23, u24, u25, u26, u27, u28, u29, u30, u31, u32, u33, u34, u35, u36, u37, u38, u39, u40, u41, u42, u43, u44, u45, u46, u47, u48, u49, u50, u51, u52, u53, u54, u55, u56, u57, u58, u59, u60, u61, u62, u63, u64, u65, u66, u67, u68, u69, u70, u71, u72, u73, u74, u75, u76, u77, u78, u79, u80, u81, u82, u83, u84, u85, u86, u87, u88, u89, u90, u91, u92, u93, u94, u95, u96, u97, u98, u99, u100, u101, u102, u103, u104, u105, u106, u107, u108, u109, u110, u111, u112, u113, u114, u115, u116, u117, u118, u119, u120, u121, u122, u123, u124, u125, u126, u127, u128, u129, u130, u131, u132, u133], []⟩ wx := by
  conv => arg 2; whnf
  let Q' : Exit → Act → World → Prop := (bodyPost Yba.prog Yba.f5 fun e w' => BuildPost I A w e w')
  show Code.wp Yba.prog _ Q' _ _
  refine seq_cut fun J K hJ hK => ?_
  go_wp2_with fail
  go_loopw [9] (fun iv wr => ∃ (k : Nat) (P : Ptrs), k ≤ I.n ∧ iv = .int .i64 k ∧ Bq I P w.heap.size k wr ∧ Below w.heap.size w wr) (fun iv _ => I.n - (intOf iv).toNat)
  case atStart => exact ⟨0, _, Nat.zero_le _, rfl, hb, hbel⟩
  case round =>
    obtain ⟨k, P, hkn, rfl, Bk, Lk⟩ := hrel
    have HK := hide (show _ ∧ _ from ⟨Bk, Lk⟩)
    have hwr := Lk.size
    have hsz := Bk.sz
    have hn1 := E.n1
    by_cases hlt : k < I.n
    · have hI := fun j hj => (E.next Lk).ins k hlt j hj
      have g0 := hI 0 (by decide)
      have g1 := hI 1 (by decide)
      have g2 := hI 2 (by decide)
      have g3 := hI 3 (by decide)
      have g4 := hI 4 (by decide)
      have g5 := hI 5 (by decide)
      have g6 := hI 6 (by decide)
      have g7 := hI 7 (by decide)
      have g8 := hI 8 (by decide)
      simp only [Inp.ib, Nat.add_zero] at g0 g1 g2 g3 g4 g5 g6 g7 g8
      clear Bk Lk hI
      obtain ⟨st0, st1⟩ := E.st0 k hlt
      obtain ⟨en0, en1⟩ := E.en0 k hlt
      go_upto_region 10 with fail
      go_cut [10, 11, 12] (fun p10 p11 v12 w2 => p10 = .pointer (some ⟨wr.heap.size, 0, none⟩) ∧ p11 = .pointer (some ⟨wr.heap.size + 1, 0, none⟩) ∧ v12 = .int .i64 (I.st k % 3) ∧ Rnd I A k wr.heap.size wr w2 (.slice none 0 0) (.slice none 0 0) (.slice none 0 0))
      case first =>
        go_wp2_with fail
        go_meet
        case rel => exact ⟨rfl, rfl, rfl, Rnd.start I A k wr⟩
      case rest =>
        obtain ⟨rfl, rfl, rfl, R2⟩ := hcut
        clear g0 g1 g2 g3 g4 g5 g6 g7 g8
        go_upto_if 56 with fail
        go_cut [10, 11, 12] (fun p10 p11 _ w2 => ∃ sp, p10 = .pointer (some ⟨wr.heap.size, 0, none⟩) ∧ p11 = .pointer (some ⟨wr.heap.size + 1, 0, none⟩) ∧ Rnd I A k wr.heap.size wr w2 (.slice sp (I.s k) (I.s k)) (.slice none 0 0) (.slice none 0 0))
        case first =>
          by_cases hs : I.st k % 3 = 0
          · rw [hs]
            go_wp2_with fail
            go_meet
            case rel => exact ⟨none, rfl, rfl, by rw [show I.s k = 0 by simp [Inp.s, hs]]; exact R2⟩
          · obtain ⟨C, hC⟩ := make24 (I.st k % 3) (by omega) (by omega) wc
            have hpos : 0 < I.st k % 3 := by omega
            have mL := R2.1
            have mN := R2.2.1
            have mA := R2.2.2
            have n0 := cells_at mN 0
            have n1 := cells_at mN 1
            have n2 := cells_at mN 2
            have n3 := cells_at mN 3
            have n4 := cells_at mN 4
            have n5 := cells_at mN 5
            have n6 := cells_at mN 6
            have n7 := cells_at mN 7
            have n8 := cells_at mN 8
            have m0 := cells_at mA 0
            have m1 := cells_at mA 1
            have m2 := cells_at mA 2
            have m3 := cells_at mA 3
            have m4 := cells_at mA 4
            have m5 := cells_at mA 5
            have m6 := cells_at mA 6
            have m7 := cells_at mA 7
            have m8 := cells_at mA 8
            have m9 := cells_at mA 9
            have m10 := cells_at mA 10
            have m11 := cells_at mA 11
            have m12 := cells_at mA 12
            have m13 := cells_at mA 13
            simp only [Inp.inb, Inp.atb, List.getElem?_toArray, List.getElem?_cons_zero, List.getElem?_cons_succ] at n0 n1 n2 n3 n4 n5 n6 n7 n8 m0 m1 m2 m3 m4 m5 m6 m7 m8 m9 m10 m11 m12 m13
            have fN := frozen_at mN
            have fA := frozen_at mA
            have szN := lt_of_block mN
            have szA := lt_of_block mA

            have HR := hide R2
            clear R2
            go_wp2_with (at_make; refine wpList_make_eq rfl 24 _ _ rfl _ hC ?_)
            go_meet
            case rel => exact ⟨_, rfl, rfl, (HR.out.set0 _).alloc _⟩
        case rest =>
          clear R2
          obtain ⟨sp, rfl, rfl, R2⟩ := hcut
          go_upto_region 13 with fail
          go_cut [10, 11, 13] (fun p10 p11 v13 w2 => p10 = .pointer (some ⟨wr.heap.size, 0, none⟩) ∧ p11 = .pointer (some ⟨wr.heap.size + 1, 0, none⟩) ∧ v13 = .int .i64 (I.en k % 3) ∧ Rnd I A k wr.heap.size wr w2 (.slice sp (I.s k) (I.s k)) (.slice none 0 0) (.slice none 0 0))
          case first =>
            have mL := R2.1
            have mN := R2.2.1
            have mA := R2.2.2
            have n0 := cells_at mN 0
            have n1 := cells_at mN 1
            have n2 := cells_at mN 2
            have n3 := cells_at mN 3
            have n4 := cells_at mN 4
            have n5 := cells_at mN 5
            have n6 := cells_at mN 6
            have n7 := cells_at mN 7
            have n8 := cells_at mN 8
            have m0 := cells_at mA 0
            have m1 := cells_at mA 1
            have m2 := cells_at mA 2
            have m3 := cells_at mA 3
            have m4 := cells_at mA 4
            have m5 := cells_at mA 5
            have m6 := cells_at mA 6
            have m7 := cells_at mA 7
            have m8 := cells_at mA 8
            have m9 := cells_at mA 9
            have m10 := cells_at mA 10
            have m11 := cells_at mA 11
            have m12 := cells_at mA 12
            have m13 := cells_at mA 13
            simp only [Inp.inb, Inp.atb, List.getElem?_toArray, List.getElem?_cons_zero, List.getElem?_cons_succ] at n0 n1 n2 n3 n4 n5 n6 n7 n8 m0 m1 m2 m3 m4 m5 m6 m7 m8 m9 m10 m11 m12 m13
            have fN := frozen_at mN
            have fA := frozen_at mA
            have szN := lt_of_block mN
            have szA := lt_of_block mA

            have HR := hide R2
            clear R2
            go_wp2_with fail
            go_meet
            case rel => exact ⟨rfl, rfl, rfl, HR.out⟩
          case rest =>
            clear R2
            obtain ⟨rfl, rfl, rfl, R2⟩ := hcut
            go_upto_if 65 with fail
            go_cut [10, 11, 13] (fun p10 p11 _ w2 => ∃ ep, p10 = .pointer (some ⟨wr.heap.size, 0, none⟩) ∧ p11 = .pointer (some ⟨wr.heap.size + 1, 0, none⟩) ∧ Rnd I A k wr.heap.size wr w2 (.slice sp (I.s k) (I.s k)) (.slice ep (I.e k) (I.e k)) (.slice none 0 0))
            case first =>
              by_cases hs : I.en k % 3 = 0
              · rw [hs]
                go_wp2_with fail
                go_meet
                case rel => exact ⟨none, rfl, rfl, by rw [show I.e k = 0 by simp [Inp.e, hs]]; exact R2⟩
              · obtain ⟨C, hC⟩ := make24 (I.en k % 3) (by omega) (by omega) wc
                have hpos : 0 < I.en k % 3 := by omega
                have mL := R2.1
                have mN := R2.2.1
                have mA := R2.2.2
                have n0 := cells_at mN 0
                have n1 := cells_at mN 1
                have n2 := cells_at mN 2
                have n3 := cells_at mN 3
                have n4 := cells_at mN 4
                have n5 := cells_at mN 5
                have n6 := cells_at mN 6
                have n7 := cells_at mN 7
                have n8 := cells_at mN 8
                have m0 := cells_at mA 0
                have m1 := cells_at mA 1
                have m2 := cells_at mA 2
                have m3 := cells_at mA 3
                have m4 := cells_at mA 4
                have m5 := cells_at mA 5
                have m6 := cells_at mA 6
                have m7 := cells_at mA 7
                have m8 := cells_at mA 8
                have m9 := cells_at mA 9
                have m10 := cells_at mA 10
                have m11 := cells_at mA 11
                have m12 := cells_at mA 12
                have m13 := cells_at mA 13
                simp only [Inp.inb, Inp.atb, List.getElem?_toArray, List.getElem?_cons_zero, List.getElem?_cons_succ] at n0 n1 n2 n3 n4 n5 n6 n7 n8 m0 m1 m2 m3 m4 m5 m6 m7 m8 m9 m10 m11 m12 m13
                have fN := frozen_at mN
                have fA := frozen_at mA
                have szN := lt_of_block mN
                have szA := lt_of_block mA

                have HR := hide R2
                clear R2
                go_wp2_with (at_make; refine wpList_make_eq rfl 24 _ _ rfl _ hC ?_)
                go_meet
                case rel => exact ⟨_, rfl, rfl, (HR.out.set1 _).alloc _⟩
            case rest =>
              clear R2
              obtain ⟨ep, rfl, rfl, R2⟩ := hcut
              have mL := R2.1
              have mN := R2.2.1
              have mA := R2.2.2
              have n0 := cells_at mN 0
              have n1 := cells_at mN 1
              have n2 := cells_at mN 2
              have n3 := cells_at mN 3
              have n4 := cells_at mN 4
              have n5 := cells_at mN 5
              have n6 := cells_at mN 6
              have n7 := cells_at mN 7
              have n8 := cells_at mN 8
              have m0 := cells_at mA 0
              have m1 := cells_at mA 1
              have m2 := cells_at mA 2
              have m3 := cells_at mA 3
              have m4 := cells_at mA 4
              have m5 := cells_at mA 5
              have m6 := cells_at mA 6
              have m7 := cells_at mA 7
              have m8 := cells_at mA 8
              have m9 := cells_at mA 9
              have m10 := cells_at mA 10
              have m11 := cells_at mA 11
              have m12 := cells_at mA 12
              have m13 := cells_at mA 13
              simp only [Inp.inb, Inp.atb, List.getElem?_toArray, List.getElem?_cons_zero, List.getElem?_cons_succ] at n0 n1 n2 n3 n4 n5 n6 n7 n8 m0 m1 m2 m3 m4 m5 m6 m7 m8 m9 m10 m11 m12 m13
              have fN := frozen_at mN
              have fA := frozen_at mA
              have szN := lt_of_block mN
              have szA := lt_of_block mA

              have HR := hide R2
              clear R2
              go_upto_if 72 with fail
              go_cut [10, 11, 14] (fun p10 p11 _ w2 => ∃ gp, p10 = .pointer (some ⟨wr.heap.size, 0, none⟩) ∧ p11 = .pointer (some ⟨wr.heap.size + 1, 0, none⟩) ∧ Rnd I A k wr.heap.size wr w2 (.slice sp (I.s k) (I.s k)) (.slice ep (I.e k) (I.e k)) (.slice gp (I.sm k) (I.sm k)) ∧ Gp I w.heap.size k gp w2)
              case first =>
                by_cases hm : I.sm k = 0
                · rw [hm]
                  go_wp2_with fail
                  go_meet
                  case rel => exact ⟨none, rfl, rfl, by rw [hm]; exact HR.out, .inl ⟨rfl, hm⟩⟩
                · have hmp : 0 < I.sm k := by omega
                  have hm1 := E.sm1 k hlt
                  obtain ⟨C, hC0, hC⟩ := make81 (I.sm k) hm1 wc
                  have HC0 := hide hC0
                  clear hC0
                  obtain ⟨b, o, es, hbl, hcs⟩ : ∃ b o, A.sa k = some ⟨b, o, none⟩ ∧ b < w.heap.size ∧ ∀ j, j < I.sm k → w.cell? ⟨b, o + j, none⟩ = some (.int .i32 (I.sv k j)) := by
                    rcases E.sig k hlt with h | h
                    · exact absurd h hm
                    · exact h
                  have Hcs := hide hcs
                  clear hcs
                  have Hes := hide es
                  rw [es] at n8
                  go_wp2_with (at_make; refine wpList_make_eq rfl 81 _ _ rfl _ hC ?_)
                  have hGB : wr.heap.size + 1 < wc.heap.size := szA
                  have hM0 : w.heap.size + 3 ≤ wc.heap.size := by omega
                  generalize hgb : wc.heap.size = GB at *
                  clear mL mN mA n0 n1 n2 n3 n4 n5 n6 n7 n8 m0 m1 m2 m3 m4 m5 m6 m7 m8 m9 m10 m11 m12 m13 fN fA szN szA hC
                  go_loopw [14] (fun iv w3 => ∃ j : Nat, j ≤ I.sm k ∧ iv = .int .i64 j ∧ Rnd I A k wr.heap.size wr w3 (.slice sp (I.s k) (I.s k)) (.slice ep (I.e k) (I.e k)) (.slice (some ⟨GB, 0, none⟩) (I.sm k) (I.sm k)) ∧ Gq I k GB j w3) (fun iv _ => I.sm k - (intOf iv).toNat)
                  case atStart => exact ⟨0, Nat.zero_le _, rfl, (HR.out.set11 _).alloc _, Gq.start (by simpa [World.setCell] using hgb) HC0.out⟩
                  case round =>
                    obtain ⟨j, hj, rfl, R3, G3⟩ := hrel
                    have mL := R3.1
                    have mN := R3.2.1
                    have mA := R3.2.2
                    have n8 := cells_at mN 8
                    have m11 := cells_at mA 11
                    simp only [Inp.inb, Inp.atb, List.getElem?_toArray, List.getElem?_cons_zero, List.getElem?_cons_succ] at n8 m11
                    rw [Hes.out] at n8
                    clear mN mA
                    by_cases hjl : j < I.sm k
                    · have hcin : _ = some (Value.int .i32 (I.sv k j)) := ((World.cell?_of_block (a := ⟨b, o + j, none⟩) (mL.block b (by omega))).trans (World.cell?_of_block (a := ⟨b, o + j, none⟩) (HK.out.2.block b hbl))).trans (Hcs.out j hjl)
                      obtain ⟨_, _, _, t3⟩ := G3.2.2 j hjl
                      have fG := G3.2.1
                      have H3 := hide (show _ ∧ _ from ⟨R3, G3⟩)
                      clear R3 G3 mL
                      go_wp2_with fail
                      go_region
                      all_goals go_wp2_with fail
                      all_goals go_roundw
                      case rel => exact ⟨j + 1, by omega, by simp, (H3.out.1.setOther hGB _).drew, H3.out.2.put hjl⟩
                      case measure => simp [intOf]; omega
                    · have hje : j = I.sm k := by omega
                      subst hje
                      have H3 := hide (show _ ∧ _ from ⟨R3, G3⟩)
                      clear R3 G3 mL
                      go_wp2_with fail
                      go_meet
                      case rel => exact ⟨_, rfl, rfl, H3.out.1, .inr ⟨GB, rfl, hM0, H3.out.2.1, H3.out.2.done⟩⟩
              case rest =>
                clear mL mN mA n0 n1 n2 n3 n4 n5 n6 n7 n8 m0 m1 m2 m3 m4 m5 m6 m7 m8 m9 m10 m11 m12 m13 fN fA szN szA
                clear HR
                obtain ⟨gp, rfl, rfl, R2, hG⟩ := hcut
                have HG := hide hG
                clear hG
                have mL := R2.1
                have mN := R2.2.1
                have mA := R2.2.2
                have n0 := cells_at mN 0
                have n1 := cells_at mN 1
                have n2 := cells_at mN 2
                have n3 := cells_at mN 3
                have n4 := cells_at mN 4
                have n5 := cells_at mN 5
                have n6 := cells_at mN 6
                have n7 := cells_at mN 7
                have n8 := cells_at mN 8
                have m0 := cells_at mA 0
                have m1 := cells_at mA 1
                have m2 := cells_at mA 2
                have m3 := cells_at mA 3
                have m4 := cells_at mA 4
                have m5 := cells_at mA 5
                have m6 := cells_at mA 6
                have m7 := cells_at mA 7
                have m8 := cells_at mA 8
                have m9 := cells_at mA 9
                have m10 := cells_at mA 10
                have m11 := cells_at mA 11
                have m12 := cells_at mA 12
                have m13 := cells_at mA 13
                simp only [Inp.inb, Inp.atb, List.getElem?_toArray, List.getElem?_cons_zero, List.getElem?_cons_succ] at n0 n1 n2 n3 n4 n5 n6 n7 n8 m0 m1 m2 m3 m4 m5 m6 m7 m8 m9 m10 m11 m12 m13
                have fN := frozen_at mN
                have fA := frozen_at mA
                have szN := lt_of_block mN
                have szA := lt_of_block mA

                have B4 := HK.out.1.next mL
                have HB := hide B4
                have HL := hide (HK.out.2.trans (mL.mono hwr))
                have HR := hide R2
                have i6 := B4.h6
                have i7 := B4.h7
                have fz1 := fun o => B4.fz (w.heap.size + 1) o (by omega) (by omega)
                have fz2 := fun o => B4.fz (w.heap.size + 2) o (by omega) (by omega)
                have at1 := B4.atms k hlt
                have hI := fun j hj => B4.inst k hlt j hj
                have p0 := hI 0 (by decide)
                have p1 := hI 1 (by decide)
                have p2 := hI 2 (by decide)
                have p3 := hI 3 (by decide)
                have p4 := hI 4 (by decide)
                have p5 := hI 5 (by decide)
                have p6 := hI 6 (by decide)
                have p7 := hI 7 (by decide)
                have p8 := hI 8 (by decide)
                have p9 := hI 9 (by decide)
                have p10 := hI 10 (by decide)
                have p11 := hI 11 (by decide)
                have p12 := hI 12 (by decide)
                have p13 := hI 13 (by decide)
                simp only [Nat.add_zero] at p0 p1 p2 p3 p4 p5 p6 p7 p8 p9 p10 p11 p12 p13
                clear R2 B4 hI mL mN mA
                go_upto_region 22 with fail
                go_region
                go_wp2_with fail
                go_region
                all_goals go_wp2_with fail
                all_goals go_roundw
                case rel =>
                  refine ⟨k + 1, P.put k sp ep gp, by omega, by simp, ?_, ?_⟩
                  · exact HB.out.put2 hlt sp ep gp HG.out
                  · exact (below_setCells (HL.out.setCell (p := ⟨w.heap.size + 1, k, none⟩) (by show _ ≤ w.heap.size + 1; omega) _) (b := w.heap.size + 2) (by omega) (I.atl k sp ep gp) (k * 14)).drew.drew
                case measure => simp [intOf]; omega
    · have hke : k = I.n := by omega
      subst hke
      clear Bk Lk
      go_wp2_with fail
      refine Met.intro (hJ.out _ _ ?_)
      exact tail6 I A w P _ _ _ _ _ _ _ _ _ _ _ _ _ _ _ _ _ _ _ _ _ _ _ _ _ _ _ _ _ _ _ _ _ _ _ _ _ _ _ _ _ _ _ _ _ _ _ _ _ _ _ _ _ _ _ _ _ _ _ _ _ _ _ _ _ _ _ _ _ _ _ _ _ _ _ _ _ _ _ _ _ _ _ _ _ _ _ _ _ _ _ _ _ _ _ _ _ _ _ _ _ _ _ _ _ _ _ _ _ _ _ _ _ _ _ _ _ _ _ _ _ _ _ _ _ _ _ _ wr E HK.out.1 HK.out.2

theorem Bq.start {I : Inp} {P : Ptrs} {w : World} {F C1 C2 : Array Value} (hF : F.size = 118 ∧ F[6]? = some (.slice none 0 0) ∧ F[7]? = some (.slice none 0 0) ∧ F[8]? = some (.slice none 0 0) ∧ F[74]? = some (.bool I.kd) ∧ F[29]? = some (.slice none 0 0) ∧ F[71]? = some (.slice none 0 0) ∧ F[96]? = some (.slice none 0 0) ∧ F[53]? = some (.slice none 0 0))
    (h1 : ∀ k, k < I.n → C1[k]? = some (.int .i64 0)) (h2 : ∀ k, k < I.n → ∀ j, j < 14 → C2[k * 14 + j]? = some ((zs[j]?).getD (.bool false))) :
    Bq I P w.heap.size 0 (((w.alloc (.cells ((F.setIfInBounds 6 (.slice (some ⟨w.heap.size + 1, 0, none⟩) I.n I.n)).setIfInBounds 7 (.slice (some ⟨w.heap.size + 2, 0, none⟩) I.n I.n)) 79)).alloc (.cells C1 2)).alloc (.cells C2 86)) := by
  obtain ⟨f0, f6, f7, f8, f74, f29, f71, f96, f53⟩ := hF
  generalize hG : (F.setIfInBounds 6 (.slice (some ⟨w.heap.size + 1, 0, none⟩) I.n I.n)).setIfInBounds 7 (.slice (some ⟨w.heap.size + 2, 0, none⟩) I.n I.n) = G
  have g : ∀ j, j ≠ 6 → j ≠ 7 → G[j]? = F[j]? := fun j h6 h7 => by
    rw [← hG, Array.getElem?_setIfInBounds_ne (by omega), Array.getElem?_setIfInBounds_ne (by omega)]
  have g6 : G[6]? = some (.slice (some ⟨w.heap.size + 1, 0, none⟩) I.n I.n) := by
    rw [← hG, Array.getElem?_setIfInBounds_ne (by omega)]
    simp [f0]
  have g7 : G[7]? = some (.slice (some ⟨w.heap.size + 2, 0, none⟩) I.n I.n) := by
    rw [← hG]; simp [f0]
  have b0 : (((w.alloc (.cells G 79)).alloc (.cells C1 2)).alloc (.cells C2 86)).heap[w.heap.size]? = some (.cells G 79) := by
    rw [Below.heap_alloc _ _ _ (by simp; omega), Below.heap_alloc _ _ _ (by simp)]; exact newBlock _ _
  have b1 : (((w.alloc (.cells G 79)).alloc (.cells C1 2)).alloc (.cells C2 86)).heap[w.heap.size + 1]? = some (.cells C1 2) := by
    rw [Below.heap_alloc _ _ _ (by simp)]
    have := newBlock (w.alloc (.cells G 79)) (.cells C1 2)
    rwa [show (w.alloc (.cells G 79)).heap.size = w.heap.size + 1 by simp] at this
  have b2 : (((w.alloc (.cells G 79)).alloc (.cells C1 2)).alloc (.cells C2 86)).heap[w.heap.size + 2]? = some (.cells C2 86) := by
    have := newBlock ((w.alloc (.cells G 79)).alloc (.cells C1 2)) (.cells C2 86)
    rwa [show ((w.alloc (.cells G 79)).alloc (.cells C1 2)).heap.size = w.heap.size + 2 by simp] at this
  refine ⟨fun i hi j hj => ?_, fun i hi => ?_, ?_, ?_, ?_, ?_, fun i hi => ?_, fun b o h1 h2 => ?_, fun i hi => by omega, by simp⟩
  · rw [cells_at b2, if_neg (by omega)]; exact h2 i hi j hj
  · rw [cells_at b1, if_neg (by omega)]; exact h1 i hi
  · rw [cells_at b0]; exact g6
  · rw [cells_at b0]; exact g7
  · rw [cells_at b0, g 8 (by decide) (by decide)]; exact f8
  · rw [cells_at b0, g 74 (by decide) (by decide)]; exact f74
  · rw [cells_at b0]
    match i, hi with
    | 0, _ => exact (g 29 (by decide) (by decide)).trans f29
    | 1, _ => exact (g 71 (by decide) (by decide)).trans f71
    | 2, _ => exact (g 96 (by decide) (by decide)).trans f96
    | 3, _ => exact (g 53 (by decide) (by decide)).trans f53
  · rcases (show b = w.heap.size ∨ b = w.heap.size + 1 ∨ b = w.heap.size + 2 by omega) with rfl | rfl | rfl
    · exact frozen_at b0 o
    · exact frozen_at b1 o
    · exact frozen_at b2 o
set_option maxRecDepth 100000 in
set_option maxHeartbeats 2000000 in
theorem build_any (I : Inp) (A : Arg) (w : World) (E : Env I A w) :
    Calls Yba.prog 5 #[.slice (some ⟨A.ab, A.ao, none⟩) I.n A.acap, .slice A.a1 A.c A.ccap, .bool I.kd] w fun e w' => BuildPost I A w e w' := by
  obtain ⟨F, hF, f0, f6, f7, f8, f74, f29, f71, f96, f53⟩ := built79 I.kd
  have hn1 := E.n1
  obtain ⟨C1, hC1a, hC1⟩ := make33 I.n E.n1 (w.alloc (.cells F 79))
  obtain ⟨C2, hC2a, hC2⟩ := make36 I.n E.n1 ((w.alloc (.cells (F.setIfInBounds 6 (.slice (some ⟨w.heap.size + 1, 0, none⟩) I.n I.n)) 79)).alloc (.cells C1 2))
  have HF := hide (show _ ∧ _ ∧ _ ∧ _ ∧ _ ∧ _ ∧ _ ∧ _ ∧ _ from ⟨f0, f6, f7, f8, f74, f29, f71, f96, f53⟩)
  have HC := hide (show _ ∧ _ from ⟨hC1a, hC2a⟩)
  clear f8 f74 f29 f71 f96 f53 hC1a hC2a
  have hs7 : (F.setIfInBounds 6 (.slice (some ⟨w.heap.size + 1, 0, none⟩) I.n I.n)).size = 118 := by simp [f0]
  go_enter Yba.func5, Yba.ntmps5
  refine seq_cut fun J K hJ hK => ?_
  go_wp2_with fail
  refine Met.intro (hJ.out _ _ ?_)
  clear hJ
  refine seq_cut fun J K hJ hK => ?_
  go_wp2_with fail
  refine Met.intro (hJ.out _ _ ?_)
  clear hJ
  refine seq_cut fun J K hJ hK => ?_
  go_wp2_with (refine wpList_build_at rfl 79 #[(27, .tmp 18)] rfl F [(27, .bool I.kd)] rfl hF ?_)
  refine Met.intro (hJ.out _ _ ?_)
  clear hJ hF
  refine seq_cut fun J K hJ hK => ?_
  go_wp2_with (at_make; refine wpList_make_eq rfl 33 _ _ rfl _ hC1 ?_)
  refine Met.intro (hJ.out _ _ ?_)
  clear hJ hC1
  refine seq_cut fun J K hJ hK => ?_
  go_wp2_with (at_make; refine wpList_make_eq rfl 36 _ _ rfl _ hC2 ?_)
  refine Met.intro (hJ.out _ _ ?_)
  clear hJ hC2
  exact tail5 I A w ⟨fun _ => none, fun _ => none, fun _ => none⟩ _ _ _ _ _ _ _ _ _ _ _ _ _ _ _ _ _ _ _ _ _ _ _ _ _ _ _ _ _ _ _ _ _ _ _ _ _ _ _ _ _ _ _ _ _ _ _ _ _ _ _ _ _ _ _ _ _ _ _ _ _ _ _ _ _ _ _ _ _ _ _ _ _ _ _ _ _ _ _ _ _ _ _ _ _ _ _ _ _ _ _ _ _ _ _ _ _ _ _ _ _ _ _ _ _ _ _ _ _ _ _ _ _ _ _ _ _ _ _ _ _ _ _ _ _ _ _ _ _ E (Bq.start HF.out HC.out.1 HC.out.2) ((((Below.refl _ _).alloc (Nat.le_refl _) _).alloc (by simp) _).alloc (by simp; omega) _)
end Go.Proofs.Ybulkbfpk
