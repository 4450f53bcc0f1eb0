import Derived.Test.YbulkbfpkMake
namespace Go.Proofs.Ybulkbfpk
open Go.RowKit
/-- The cells of the k-th argument. -/
def Inp.ib (I : Inp) (sa : Nat → Option Addr) (sc : Nat → Nat) (k : Nat) : Nat → Value
  | 0 => .int .u8 (I.st k)
  | 1 => .int .u8 (I.en k)
  | 2 => .int .i64 (I.atm k)
  | 3 => .int .i64 (I.rom k)
  | 4 => .int .i64 (I.fre k)
  | 5 => .int .i32 (I.opn k)
  | 6 => .int .i32 (I.dev k)
  | 7 => .int .i32 (I.cor k)
  | _ => .slice (sa k) (I.sm k) (sc k)
structure Arg where
  ab : Nat
  ao : Nat
  acap : Nat
  sa : Nat → Option Addr
  sc : Nat → Nat
  a1 : Option Addr
  c : Nat
  ccap : Nat
  c0 : Nat → Int
/-- The input, as it lies. -/
structure Env (I : Inp) (A : Arg) (w : World) : Prop where
  ins : ∀ i, i < I.n → ∀ j, j < 9 → w.cell? ⟨A.ab, A.ao + i * 9 + j, none⟩ = some (I.ib A.sa A.sc i j)
  lt : A.ab < w.heap.size
  sig : ∀ i, i < I.n → I.sm i = 0 ∨ ∃ b o, A.sa i = some ⟨b, o, none⟩ ∧ b < w.heap.size ∧ ∀ j, j < I.sm i → w.cell? ⟨b, o + j, none⟩ = some (.int .i32 (I.sv i j))
  nilc : ∀ i, i < I.n → A.sa i = none → I.sm i = 0 ∧ A.sc i = 0
  cur : A.c = 0 ∨ ∃ b o, A.a1 = some ⟨b, o, none⟩ ∧ b < w.heap.size ∧ ∀ i, i < A.c → w.cell? ⟨b, o + i, none⟩ = some (.int .i64 (A.c0 i))
  n0 : 0 < I.n
  n1 : I.n ≤ 1024
  c1 : A.c ≤ 1024
  sm1 : ∀ i, i < I.n → I.sm i ≤ 1024
  st0 : ∀ i, i < I.n → 0 ≤ I.st i ∧ I.st i < 256
  en0 : ∀ i, i < I.n → 0 ≤ I.en i ∧ I.en i < 256
  cz : ∀ i, i < A.c → -9223372036854775808 ≤ A.c0 i ∧ A.c0 i ≤ 9223372036854775807
theorem Env.next {I : Inp} {A : Arg} {w w' : World} (h : Env I A w) (hb : Below w.heap.size w w') : Env I A w' := by
  have hs := hb.size
  have hc : ∀ b o, b < w.heap.size → w'.cell? ⟨b, o, none⟩ = w.cell? ⟨b, o, none⟩ := fun b o hl => World.cell?_of_block (a := ⟨b, o, none⟩) (hb.block b hl)
  refine ⟨fun i hi j hj => (hc _ _ h.lt).trans (h.ins i hi j hj), by have := h.lt; omega, fun i hi => ?_, h.nilc, ?_, h.n0, h.n1, h.c1, h.sm1, h.st0, h.en0, h.cz⟩
  · rcases h.sig i hi with h | ⟨b, o, e, hl, hcc⟩
    · exact .inl h
    · exact .inr ⟨b, o, e, by omega, fun j hj => (hc _ _ hl).trans (hcc j hj)⟩
  · rcases h.cur with h | ⟨b, o, e, hl, hcc⟩
    · exact .inl h
    · exact .inr ⟨b, o, e, by omega, fun j hj => (hc _ _ hl).trans (hcc j hj)⟩
/-- The timeline, k instants written; N is the timeline's block. -/
structure Bq (I : Inp) (P : Ptrs) (N k : Nat) (w : World) : Prop where
  inst : ∀ i, i < I.n → ∀ j, j < 14 → w.cell? ⟨N + 2, i * 14 + j, none⟩ = some (if i < k then I.ic P (I.rom i) i j else (zs[j]?).getD (.bool false))
  atms : ∀ i, i < I.n → w.cell? ⟨N + 1, i, none⟩ = some (.int .i64 (if i < k then I.atm i else 0))
  h6 : w.cell? ⟨N, 6, none⟩ = some (.slice (some ⟨N + 1, 0, none⟩) I.n I.n)
  h7 : w.cell? ⟨N, 7, none⟩ = some (.slice (some ⟨N + 2, 0, none⟩) I.n I.n)
  h8 : w.cell? ⟨N, 8, none⟩ = some (.slice none 0 0)
  kd : w.cell? ⟨N, 74, none⟩ = some (.bool I.kd)
  spare : ∀ i, i < 4 → w.cell? ⟨N, pos i, none⟩ = some (.slice none 0 0)
  fz : ∀ b o, N ≤ b → b ≤ N + 2 → w.frozen? ⟨b, o, none⟩ = false
  sg : ∀ i, i < k → (P.gp i = none ∧ I.sm i = 0) ∨ ∃ GB, P.gp i = some ⟨GB, 0, none⟩ ∧ N + 3 ≤ GB ∧ GB < w.heap.size ∧ ∀ j, j < I.sm i → w.cell? ⟨GB, j * 4, none⟩ = some (.int .i64 0) ∧ w.cell? ⟨GB, j * 4 + 1, none⟩ = some (.int .i64 0) ∧ w.cell? ⟨GB, j * 4 + 2, none⟩ = some (.int .i32 0) ∧ w.cell? ⟨GB, j * 4 + 3, none⟩ = some (.int .i32 (I.sv i j))
  sz : N + 3 ≤ w.heap.size
theorem Bq.next {I : Inp} {P : Ptrs} {N k : Nat} {w w' : World} (h : Bq I P N k w) (hb : Below w.heap.size w w') : Bq I P N k w' := by
  have hs := hb.size
  have hz := h.sz
  have hc : ∀ b o, b < w.heap.size → w'.cell? ⟨b, o, none⟩ = w.cell? ⟨b, o, none⟩ := fun b o hl => World.cell?_of_block (a := ⟨b, o, none⟩) (hb.block b hl)
  have hf : ∀ b o, b < w.heap.size → w'.frozen? ⟨b, o, none⟩ = w.frozen? ⟨b, o, none⟩ := fun b o hl => World.frozen?_of_block (a := ⟨b, o, none⟩) (hb.block b hl)
  refine ⟨fun i hi j hj => (hc _ _ (by omega)).trans (h.inst i hi j hj), fun i hi => (hc _ _ (by omega)).trans (h.atms i hi), (hc _ _ (by omega)).trans h.h6, (hc _ _ (by omega)).trans h.h7, (hc _ _ (by omega)).trans h.h8, (hc _ _ (by omega)).trans h.kd, fun i hi => (hc _ _ (by omega)).trans (h.spare i hi), fun b o h1 h2 => (hf _ _ (by omega)).trans (h.fz b o h1 h2), fun i hi => ?_, by omega⟩
  rcases h.sg i hi with h | ⟨GB, e, h1, h2, h3⟩
  · exact .inl h
  · refine .inr ⟨GB, e, h1, by omega, fun j hj => ?_⟩
    rw [hc _ _ h2, hc _ _ h2, hc _ _ h2, hc _ _ h2]
    exact h3 j hj
/-- Another P that is the same below k. -/
theorem ic_congr {I : Inp} {P Q : Ptrs} {r : Int} {i : Nat} (h1 : P.sp i = Q.sp i) (h2 : P.ep i = Q.ep i) (h3 : P.gp i = Q.gp i) : ∀ j, I.ic P r i j = I.ic Q r i j := by
  intro j
  unfold Inp.ic
  rw [h1, h2, h3]
def Ptrs.put (P : Ptrs) (k : Nat) (a b c : Option Addr) : Ptrs := ⟨upd P.sp k a, upd P.ep k b, upd P.gp k c⟩
theorem Bq.put {I : Inp} {P : Ptrs} {N k : Nat} {w : World} (h : Bq I P N k w) (hk : k < I.n) (a b c : Option Addr) (hc : (c = none ∧ I.sm k = 0) ∨ ∃ GB, c = some ⟨GB, 0, none⟩ ∧ N + 3 ≤ GB ∧ GB < w.heap.size ∧ ∀ j, j < I.sm k → w.cell? ⟨GB, j * 4, none⟩ = some (.int .i64 0) ∧ w.cell? ⟨GB, j * 4 + 1, none⟩ = some (.int .i64 0) ∧ w.cell? ⟨GB, j * 4 + 2, none⟩ = some (.int .i32 0) ∧ w.cell? ⟨GB, j * 4 + 3, none⟩ = some (.int .i32 (I.sv k j)))
    (vs : List Value) (hl : vs.length = 14) (hv : ∀ j (hj : j < vs.length), vs[j] = I.ic (P.put k a b c) (I.rom k) k j) :
    Bq I (P.put k a b c) N (k + 1) ((w.setCell ⟨N + 1, k, none⟩ (.int .i64 (I.atm k))).setCells (N + 2) (k * 14) vs) := by
  have hne : ∀ q o, q ≠ N + 1 → q ≠ N + 2 → ((w.setCell ⟨N + 1, k, none⟩ (.int .i64 (I.atm k))).setCells (N + 2) (k * 14) vs).cell? ⟨q, o, none⟩ = w.cell? ⟨q, o, none⟩ := fun q o h1 h2 => (World.cell?_of_block (a := ⟨q, o, none⟩) ((heap_setCells _ _ _ _ _ h2).trans (Below.heap_setCell _ _ _ _ h1)))
  have hsame : ∀ i, i ≠ k → (P.put k a b c).sp i = P.sp i ∧ (P.put k a b c).ep i = P.ep i ∧ (P.put k a b c).gp i = P.gp i := fun i hi => ⟨upd_ne _ _ hi, upd_ne _ _ hi, upd_ne _ _ hi⟩
  have hs := h.sz
  refine ⟨fun i hi j hj => ?_, fun i hi => ?_, (hne _ _ (by omega) (by omega)).trans h.h6, (hne _ _ (by omega) (by omega)).trans h.h7, (hne _ _ (by omega) (by omega)).trans h.h8, (hne _ _ (by omega) (by omega)).trans h.kd, fun i hi => (hne _ _ (by omega) (by omega)).trans (h.spare i hi), fun q o h1 h2 => ?_, fun i hi => ?_, by rw [size_setCells]; simpa [World.setCell] using hs⟩
  · by_cases hik : i = k
    · subst hik
      rw [World.cell?_setCells_in (N + 2) vs (i * 14) _ (fun q hq => ?_) j (by omega), hv, if_pos (by omega)]
      rw [cell_set_ne (by omega), h.inst i hi q (by omega)]
      rfl
    · rw [World.cell?_setCells_out (N + 2) _ _ _ ⟨N + 2, i * 14 + j, none⟩ (fun _ _ => by show i * 14 + j < _ ∨ _ ≤ i * 14 + j; omega), cell_set_ne (by omega), h.inst i hi j hj]
      obtain ⟨e1, e2, e3⟩ := hsame i hik
      by_cases hl2 : i < k
      · rw [if_pos hl2, if_pos (by omega), ic_congr e1.symm e2.symm e3.symm]
      · rw [if_neg hl2, if_neg (by omega)]
  · rw [World.cell?_setCells_out (N + 2) _ _ _ ⟨N + 1, i, none⟩ (fun h _ => by simp at h)]
    by_cases hik : i = k
    · subst hik
      rw [if_pos (by omega)]
      exact World.cell?_setCell_same _ _ _ (h.atms i hi)
    · rw [cell_set_ne (by omega), h.atms i hi]
      by_cases hl2 : i < k
      · rw [if_pos hl2, if_pos (by omega)]
      · rw [if_neg hl2, if_neg (by omega)]
  · rw [frz_setCells, World.frozen?_setCell]
    exact h.fz q o h1 h2
  · have hsz : ((w.setCell ⟨N + 1, k, none⟩ (.int .i64 (I.atm k))).setCells (N + 2) (k * 14) vs).heap.size = w.heap.size := by rw [size_setCells]; simp [World.setCell]
    by_cases hik : i = k
    · subst hik
      have eg : (P.put i a b c).gp i = c := upd_eq _ _ _
      rw [eg]
      rcases hc with hc | ⟨GB, e, h1, h2, h3⟩
      · exact .inl hc
      · refine .inr ⟨GB, e, h1, by omega, fun j hj => ?_⟩
        rw [hne _ _ (by omega) (by omega), hne _ _ (by omega) (by omega), hne _ _ (by omega) (by omega), hne _ _ (by omega) (by omega)]
        exact h3 j hj
    · obtain ⟨e1, e2, e3⟩ := hsame i hik
      rw [e3]
      rcases h.sg i (by omega) with h | ⟨GB, e, h1, h2, h3⟩
      · exact .inl h
      · refine .inr ⟨GB, e, h1, by omega, fun j hj => ?_⟩
        rw [hne _ _ (by omega) (by omega), hne _ _ (by omega) (by omega), hne _ _ (by omega) (by omega), hne _ _ (by omega) (by omega)]
        exact h3 j hj
end Go.Proofs.Ybulkbfpk
