import Derived.Test.YbulkbfpkModel
namespace Go.Proofs.Ybulkbfpk
open Go.RowKit
structure Pre (I : Inp) (A : Arg) (P : Ptrs) (CU : Nat) (w wq : World) : Prop where
  bt : Bt I P A w.heap.size CU A.c wq
  bel : Below w.heap.size w wq
def ids (A : Arg) (CU N B : Nat) : Ids := ⟨N, N + 1, N + 2, CU, B, A.c⟩
theorem TS.nil {TL B : Nat} {w : World} (h : ∀ i, i < 4 → w.cell? ⟨TL, pos i, none⟩ = some (.slice none 0 0)) (hf : ∀ q, w.frozen? ⟨TL, q, none⟩ = false) (ht : TL < B) (hB : B ≤ w.heap.size) (X : Nat → List Value) (hX : ∀ i, X i = []) : TS TL B X w :=
  ⟨⟨fun _ => .slice none 0 0, fun i hi => ⟨h i hi, by rw [hX i]; exact World.ownsRow_nil _ _ _ _⟩, fun _ _ _ _ _ => .inl rfl⟩, hf, ht, hB⟩
theorem Pre.ok {I : Inp} {A : Arg} {P : Ptrs} {CU : Nat} {w wq : World} (h : Pre I A P CU w wq) {B : Nat} (hB : wq.heap.size ≤ B) : (ids A CU w.heap.size B).Ok := by
  have h1 := h.bt.sz
  have h2 := h.bt.cu
  constructor <;> simp only [ids] <;> omega
theorem Pre.tl {I : Inp} {A : Arg} {P : Ptrs} {CU : Nat} {w wq wx : World} (h : Pre I A P CU w wq) (hb : Below wq.heap.size wq wx) :
    Tl I P (ids A CU w.heap.size wx.heap.size) (I.src 1) (I.rr 1) (I.cu A.c0 1) (I.X 1) wx := by
  have h1 := h.bt.sz
  have h2 := h.bt.cu
  have hs := hb.size
  have hc : ∀ b o, b < wq.heap.size → wx.cell? ⟨b, o, none⟩ = wq.cell? ⟨b, o, none⟩ := fun b o hl => World.cell?_of_block (a := ⟨b, o, none⟩) (hb.block b hl)
  have hf : ∀ b o, b < wq.heap.size → wx.frozen? ⟨b, o, none⟩ = wq.frozen? ⟨b, o, none⟩ := fun b o hl => World.frozen?_of_block (a := ⟨b, o, none⟩) (hb.block b hl)
  have eK : I.K 1 = 1 := by simp [Inp.K, Inp.keep]
  have es : ∀ i, I.src 1 i = i := by
    intro i
    unfold Inp.src
    rw [eK]
    by_cases e : i < 1
    · rw [if_pos e]
      have : i = 0 := by omega
      subst this
      simp [Inp.kp, Inp.keep, Inp.K, upd]
    · rw [if_neg e]
  have er : ∀ i, I.rr 1 i = I.rom i := by
    intro i
    unfold Inp.rr
    rw [eK]
    by_cases e : i < 1
    · rw [if_pos e]
      have : i = 0 := by omega
      subst this
      simp [Inp.rm, Inp.keep, Inp.K, upd]
    · rw [if_neg e]
  have ec : ∀ i, I.cu A.c0 1 i = A.c0 i := by
    intro i
    unfold Inp.cu
    split
    · rename_i e
      have : A.c0 i = 0 := by omega
      rw [this]
      simp [Inp.nx, eK]
    · rfl
  have eX : ∀ i, I.X 1 i = [] := by
    intro i
    simp [Inp.X, Inp.keep]
  have ok := h.ok hs
  refine ⟨fun i hi j hj => ?_, fun i hi => ?_, fun i hi => ?_, (hc _ _ (by simp only [ids]; omega)).trans h.bt.h6, (hc _ _ (by simp only [ids]; omega)).trans h.bt.h7, (hc _ _ (by simp only [ids]; omega)).trans h.bt.h8, (hc _ _ (by simp only [ids]; omega)).trans h.bt.kd, fun o => (hf _ _ (by simp only [ids]; omega)).trans (h.bt.fz _ _ (by simp [ids]) (by simp [ids])), fun o => (hf _ _ (by simp only [ids]; omega)).trans (h.bt.fz _ _ (by simp [ids]) (by simp [ids])), fun o => (hf _ _ h2).trans (h.bt.fzC o), TS.nil (fun i hi => (hc _ _ (by omega)).trans (h.bt.spare i hi)) (fun q => (hf _ _ (by omega)).trans (h.bt.fz _ _ (Nat.le_refl _) (by omega))) (by simp only [ids]; omega) (by simp only [ids]; exact Nat.le_refl _) _ eX, fun k hk => ?_⟩
  · rw [es, er]; exact (hc _ _ (by simp only [ids]; omega)).trans (h.bt.inst i hi j hj)
  · rw [es]; exact (hc _ _ (by simp only [ids]; omega)).trans (h.bt.atms i hi)
  · rw [ec]
    have := h.bt.curs i hi
    rw [if_pos (show i < A.c from hi)] at this
    exact (hc _ _ h2).trans this
  · rcases h.bt.sg k hk with h | ⟨GB, e, g1, g2, g4, g3⟩
    · exact .inl h
    · refine .inr ⟨GB, e, by simp only [ids]; omega, ?_, fun j hj => ?_⟩
      · simp only [Ids.S, ids, List.mem_cons, List.not_mem_nil, or_false]; omega
      · rw [hc _ _ g2, hc _ _ g2, hc _ _ g2, hc _ _ g2]
        exact g3 j hj
/-- What the law reads behind 'compact'. -/
structure Fin (I : Inp) (A : Arg) (P : Ptrs) (D : Ids) (NI : Nat) (l : List Row) (w wf : World) : Prop where
  cp : Cp I P D A.c0 (I.K I.n) (I.K I.n) wf
  ok : D.Ok
  rows : Rows wf NI l
  env : Env I A wf
  bel : Below w.heap.size w wf
section
variable {I : Inp} {A : Arg} {P : Ptrs} {D : Ids} {NI : Nat} {l : List Row} {w wf w' : World}
theorem Fin.next (h : Fin I A P D NI l w wf) (hb : Below wf.heap.size wf w') : Fin I A P D NI l w w' := by
  have hB := h.cp.ts.hB
  have o := h.ok
  have hs := hb.size
  have hc : ∀ b o, b < wf.heap.size → w'.cell? ⟨b, o, none⟩ = wf.cell? ⟨b, o, none⟩ := fun b o hl => World.cell?_of_block (a := ⟨b, o, none⟩) (hb.block b hl)
  have b1 := o.b1
  have b2 := o.b2
  have b3 := o.b3
  have b4 := o.b4
  refine ⟨⟨fun i hi j hj => (hc _ _ (by omega)).trans (h.cp.inst i hi j hj), fun i h1 hi j hj => (hc _ _ (by omega)).trans (h.cp.zero i h1 hi j hj), fun i hi => (hc _ _ (by omega)).trans (h.cp.atms i hi), fun i hi => (hc _ _ (by omega)).trans (h.cp.curs i hi), (hc _ _ (by omega)).trans h.cp.h6, (hc _ _ (by omega)).trans h.cp.h7, (hc _ _ (by omega)).trans h.cp.h8, h.cp.ts.keep hs (fun k _ hk => hb.block k hk) (hb.block _ (by omega))⟩, o, ⟨fun i r hi => own_kept (h.rows.own i r hi) fun k _ _ hk => hb.block k hk, h.rows.far⟩, h.env.next hb, h.bel.trans (hb.mono h.bel.size)⟩
end
theorem below_but {S : List Nat} {m : Nat} {w a b : World} (h : Below m w a) (hb : But S a b) (hS : ∀ k, k ∈ S → m ≤ k) (hm : m ≤ a.heap.size) : Below m w b := by
  refine ⟨hb.os.trans h.os, hb.tape.trans h.tape, hb.output.trans h.output, Nat.le_trans h.size hb.size, fun k hk => (hb.block k (by omega) (fun e => ?_)).trans (h.block k hk)⟩
  have := hS k e
  omega
theorem Fin.mk' {I : Inp} {A : Arg} {P : Ptrs} {CU : Nat} {l : List Row} {w wq wx wf : World} (E : Env I A w) (h : Pre I A P CU w wq) (hb : Below wq.heap.size wq wx) (hr : Rows wx wq.heap.size l) (hc : Cp I P (ids A CU w.heap.size wx.heap.size) A.c0 (I.K I.n) (I.K I.n) wf) (hu : But (ids A CU w.heap.size wx.heap.size).S wx wf) :
    Fin I A P (ids A CU w.heap.size wx.heap.size) wq.heap.size l w wf := by
  have h1 := h.bt.sz
  have h2 := h.bt.cu
  have hw : Below w.heap.size w wf := below_but (h.bel.trans (hb.mono h.bel.size)) hu (by
    intro k hk
    simp only [Ids.S, ids, List.mem_cons, List.not_mem_nil, or_false] at hk
    omega) (Nat.le_trans h.bel.size hb.size)
  refine ⟨hc, h.ok hb.size, hr.but hu (by
    intro k hk
    simp only [Ids.S, ids, List.mem_cons, List.not_mem_nil, or_false] at hk
    omega), E.next hw, hw⟩
end Go.Proofs.Ybulkbfpk
