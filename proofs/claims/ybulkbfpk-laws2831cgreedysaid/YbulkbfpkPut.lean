import Derived.Test.YbulkbfpkTl
namespace Go.Proofs.Ybulkbfpk
open Go.RowKit
theorem heap_setCells (b : Nat) : ∀ (vs : List Value) (o : Nat) (w : World) (k : Nat), k ≠ b → (w.setCells b o vs).heap[k]? = w.heap[k]?
  | [], _, _, _, _ => rfl
  | v :: r, o, w, k, h => by
    simp only [World.setCells]
    rw [heap_setCells b r (o + 1) _ k h]
    exact Below.heap_setCell _ _ _ _ h
theorem size_setCells (b : Nat) : ∀ (vs : List Value) (o : Nat) (w : World), (w.setCells b o vs).heap.size = w.heap.size
  | [], _, _ => rfl
  | v :: r, o, w => by
    simp only [World.setCells]
    rw [size_setCells b r]
    simp [World.setCell]
theorem frz_setCells (b : Nat) : ∀ (vs : List Value) (o : Nat) (w : World) (x : Addr), (w.setCells b o vs).frozen? x = w.frozen? x
  | [], _, _, _ => rfl
  | v :: r, o, w, x => by
    simp only [World.setCells]
    rw [frz_setCells b r, World.frozen?_setCell]
theorem But.setCells {S : List Nat} {w W : World} (h : But S w W) {b : Nat} (hp : b ∈ S) : ∀ (vs : List Value) (o : Nat), But S w (W.setCells b o vs) := by
  intro vs
  induction vs generalizing W with
  | nil => intro o; exact h
  | cons v r ih => intro o; exact ih (h.setCell hp v) (o + 1)
def Inp.row (I : Inp) (P : Ptrs) (r : Int) (k : Nat) : List Value := [.slice (P.sp k) (I.s k) (I.s k), .slice (P.ep k) (I.e k) (I.e k), .int .i64 (I.fre k), .int .i64 r, .int .i64 0, .int .i32 (I.opn k), .int .i32 (I.dev k), .int .i32 0, .int .i32 0, .int .i32 (I.cor k), .bool false, .slice (P.gp k) (I.sm k) (I.sm k), .int .i64 0, .slice none 0 0]
theorem Inp.row_at (I : Inp) (P : Ptrs) (r : Int) (k j : Nat) (hj : j < 14) : (I.row P r k)[j]'(by simpa [Inp.row] using hj) = I.ic P r k j := by
  match j, hj with
  | 0, _ | 1, _ | 2, _ | 3, _ | 4, _ | 5, _ | 6, _ | 7, _ | 8, _ | 9, _ | 10, _ | 11, _ | 12, _ | 13, _ => rfl
section
variable {I : Inp} {P : Ptrs} {D : Ids} {src : Nat → Nat} {rr : Nat → Int} {C : Nat → Int} {X Y : Nat → List Value} {w w' : World}
theorem Tl.keepL (h : Tl I P D src rr C X w) (ok : D.Ok) {K : Nat} (hK : K < I.n) (m : Nat) (r : Int) (vs : List Value) (hl : vs.length = 14) (hv : ∀ j (hj : j < vs.length), vs[j] = I.ic P r m j) :
    Tl I P D (upd src K m) (upd rr K r) C X ((w.setCell ⟨D.AT, K, none⟩ (.int .i64 (I.atm m))).setCells D.IN (K * 14) vs) := by
  have hc1 := fun o (hb : o ≠ K) => cell_set_ne (w := w) (b := D.AT) (o := K) (c := D.AT) (p := o) (v := .int .i64 (I.atm m)) (by omega)
  have hc2 := fun b o (hb : b ≠ D.AT) => cell_set_ne (w := w) (b := D.AT) (o := K) (c := b) (p := o) (v := .int .i64 (I.atm m)) (by omega)
  have e := h.atms K hK
  refine h.put ok (by rw [size_setCells]; simp [World.setCell]) (fun b h1 h2 h3 h4 => (heap_setCells _ _ _ _ _ h3).trans (Below.heap_setCell _ _ _ _ h2)) (fun b o => (frz_setCells _ _ _ _ _).trans (World.frozen?_setCell _ _ _ _)) (fun i hi j hj => ?_) (fun i hi => ?_) (fun i hi => ?_)
  · by_cases hiK : i = K
    · subst hiK
      rw [upd_eq, upd_eq]
      rw [World.cell?_setCells_in D.IN vs (i * 14) _ (fun j hj => ?_) j (by omega), hv]
      rw [hc2 _ _ ok.a4.symm, h.inst i hK j (by omega)]
      rfl
    · rw [upd_ne _ _ hiK, upd_ne _ _ hiK]
      rw [World.cell?_setCells_out D.IN _ _ _ ⟨D.IN, i * 14 + j, none⟩ (fun _ _ => by show i * 14 + j < _ ∨ _ ≤ i * 14 + j; omega), hc2 _ _ ok.a4.symm]
      exact h.inst i hi j hj
  · rw [World.cell?_setCells_out D.IN _ _ _ ⟨D.AT, i, none⟩ (fun h _ => absurd h ok.a4)]
    by_cases hiK : i = K
    · subst hiK
      rw [upd_eq]
      exact World.cell?_setCell_same _ _ _ e
    · rw [upd_ne _ _ hiK, hc1 _ hiK]
      exact h.atms i hi
  · rw [World.cell?_setCells_out D.IN _ _ _ ⟨D.CU, i * 7 + 1, none⟩ (fun h _ => absurd h ok.a6.symm), hc2 _ _ ok.a5.symm]
    exact h.curs i hi
theorem Tl.keep (h : Tl I P D src rr C X w) (ok : D.Ok) {K : Nat} (hK : K < I.n) (m : Nat) (r : Int) :
    Tl I P D (upd src K m) (upd rr K r) C X ((w.setCell ⟨D.AT, K, none⟩ (.int .i64 (I.atm m))).setCells D.IN (K * 14) (I.row P r m)).drew :=
  (h.keepL ok hK m r (I.row P r m) rfl (fun j hj => I.row_at P r m j (by simpa [Inp.row] using hj))).drew ok
theorem Tl.room (h : Tl I P D src rr C X w) (ok : D.Ok) {K : Nat} (hK : K < I.n) (r : Int) :
    Tl I P D src (upd rr K r) C X (w.setCell ⟨D.IN, K * 14 + 3, none⟩ (.int .i64 r)) := by
  have hc2 := fun b o (hb : b ≠ D.IN) => cell_set_ne (w := w) (b := D.IN) (o := K * 14 + 3) (c := b) (p := o) (v := .int .i64 r) (by omega)
  refine h.put ok (by simp [World.setCell]) (fun b h1 h2 h3 h4 => Below.heap_setCell _ _ _ _ h3) (fun b o => World.frozen?_setCell _ _ _ _) (fun i hi j hj => ?_) (fun i hi => ?_) (fun i hi => ?_)
  · by_cases hij : i = K ∧ j = 3
    · obtain ⟨rfl, rfl⟩ := hij
      rw [upd_eq]
      exact World.cell?_setCell_same _ _ _ (h.inst i hi 3 (by decide))
    · rw [cell_set_ne (by omega), h.inst i hi j hj]
      by_cases hiK : i = K
      · subst hiK
        have hj3 : j ≠ 3 := fun e => hij ⟨rfl, e⟩
        match j, hj, hj3 with
        | 0, _, _ | 1, _, _ | 2, _, _ | 4, _, _ | 5, _, _ | 6, _, _ | 7, _, _ | 8, _, _ | 9, _, _ | 10, _, _ | 11, _, _ | 12, _, _ | 13, _, _ => rfl
        | 3, _, h => exact absurd rfl h
      · rw [upd_ne _ _ hiK]
  · rw [hc2 _ _ ok.a4]; exact h.atms i hi
  · rw [hc2 _ _ ok.a6.symm]; exact h.curs i hi
theorem Tl.cur (h : Tl I P D src rr C X w) (ok : D.Ok) {a : Nat} (ha : a < D.c) (r : Int) :
    Tl I P D src rr (upd C a r) X (w.setCell ⟨D.CU, a * 7 + 1, none⟩ (.int .i64 r)) := by
  have hc2 := fun b o (hb : b ≠ D.CU) => cell_set_ne (w := w) (b := D.CU) (o := a * 7 + 1) (c := b) (p := o) (v := .int .i64 r) (by omega)
  refine h.put ok (by simp [World.setCell]) (fun b h1 h2 h3 h4 => Below.heap_setCell _ _ _ _ h4) (fun b o => World.frozen?_setCell _ _ _ _) (fun i hi j hj => ?_) (fun i hi => ?_) (fun i hi => ?_)
  · rw [hc2 _ _ ok.a6]; exact h.inst i hi j hj
  · rw [hc2 _ _ ok.a5]; exact h.atms i hi
  · by_cases hia : i = a
    · subst hia
      rw [upd_eq]
      exact World.cell?_setCell_same _ _ _ (h.curs i hi)
    · rw [upd_ne _ _ hia, cell_set_ne (by omega)]
      exact h.curs i hi
end
namespace Inp
theorem keep_iff (I : Inp) (k : Nat) (hk : 0 < k) : I.keep k = (decide (0 < I.s k) || decide (0 < I.e k)) := by
  have e0 : (k == 0) = false := by simp; omega
  have a1 : (I.st k % 3 != 0) = decide (0 < I.s k) := by
    rw [Bool.eq_iff_iff]; simp [s]; omega
  have a2 : (I.en k % 3 != 0) = decide (0 < I.e k) := by
    rw [Bool.eq_iff_iff]; simp [e]; omega
  rw [keep, e0, a1, a2]; simp
/-- The cursors behind instant k, those before i moved. -/
def cui (I : Inp) (c0 : Nat → Int) (k i : Nat) (a : Nat) : Int := if a < i then I.cu c0 (k + 1) a else I.cu c0 k a
theorem cu_eq {I : Inp} {c0 : Nat → Int} {k a : Nat} (h : I.cu c0 k a = k) : I.cu c0 (k + 1) a = I.nx k := by
  unfold cu at h ⊢
  split at h
  · rename_i hh
    have := I.nx_le (c0 a).toNat
    omega
  · rw [h]
    have : (0 : Int) ≤ k ∧ (k : Int) < ((k + 1 : Nat) : Int) := by omega
    rw [if_pos this]
    simp
theorem cu_ne {I : Inp} {c0 : Nat → Int} {k a : Nat} (h : I.cu c0 k a ≠ k) : I.cu c0 (k + 1) a = I.cu c0 k a := by
  unfold cu at h ⊢
  by_cases hh : 0 ≤ c0 a ∧ c0 a < k
  · rw [if_pos hh, if_pos (by omega)]
  · rw [if_neg hh] at h ⊢
    rw [if_neg (by omega)]
end Inp
end Go.Proofs.Ybulkbfpk
