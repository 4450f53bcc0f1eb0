import Derived.Test.YbulkbfpkBack
namespace Go.Proofs.Ybulkbfpk
open Go.RowKit Go.Shelf
/-- The plain data of the jobs: which ask cores only, the picked bid, its nodes. -/
structure Dat where
  n : Nat
  core : Nat → Bool
  pk : Nat → Int
  m : Nat → Nat
  nf : Nat → Nat → Nat
structure Bk where
  PL : Nat
  CB : Nat
  JB : Nat
  CH : Nat
  AL : Nat
  jb : Nat → Nat
  bb : Nat → Nat
  nb : Nat → Nat
  bl : Nat → Nat
  B : Nat
def Bk.S (D : Bk) : List Nat := [D.PL, D.CB, D.CH, D.AL]
structure Bk.Ok (D : Bk) (n : Nat) : Prop where
  a1 : D.PL ≠ D.CB
  a2 : D.PL ≠ D.CH
  a3 : D.PL ≠ D.AL
  a4 : D.CB ≠ D.CH
  a5 : D.CB ≠ D.AL
  a6 : D.CH ≠ D.AL
  b1 : D.PL < D.B
  b2 : D.CB < D.B
  b3 : D.CH < D.B
  b4 : D.AL < D.B
  j1 : D.JB < D.B ∧ D.JB ∉ D.S
  j2 : ∀ t, t < n → D.jb t < D.B ∧ D.jb t ∉ D.S
  j3 : ∀ t, t < n → D.bb t < D.B ∧ D.bb t ∉ D.S
  j4 : ∀ t, t < n → D.nb t < D.B ∧ D.nb t ∉ D.S
/-- What no one writes. -/
structure Stc (Q : Dat) (D : Bk) (w : World) : Prop where
  job : ∀ t, t < Q.n → w.cell? ⟨D.JB, t * 5 + 1, none⟩ = some (.pointer (some ⟨D.jb t, 0, none⟩))
  bids : ∀ t, t < Q.n → w.cell? ⟨D.JB, t * 5 + 4, none⟩ = some (.slice (some ⟨D.bb t, 0, none⟩) (D.bl t) (D.bl t))
  nod : ∀ t, t < Q.n → w.cell? ⟨D.jb t, 2, none⟩ = some (.int .i64 (if Q.core t then 0 else 1))
  bid : ∀ t, t < Q.n → ∀ b : Nat, Q.pk t = b → b < D.bl t ∧ w.cell? ⟨D.bb t, b * 3, none⟩ = some (.slice (some ⟨D.nb t, 0, none⟩) (Q.m t) (Q.m t))
  nds : ∀ t, t < Q.n → ∀ i, i < Q.m t → w.cell? ⟨D.nb t, i, none⟩ = some (.int .i64 (Q.nf t i))
  lt8 : ∀ t, t < Q.n → ∀ i, i < Q.m t → Q.nf t i < 8
  m1 : ∀ t, t < Q.n → Q.m t ≤ 1024
  n1 : Q.n ≤ 1024
  bl1 : ∀ t, t < Q.n → D.bl t ≤ 1024
/-- The frame: below B nothing but the four blocks turned. -/
structure Frm (D : Bk) (w w' : World) : Prop where
  os : w'.os = w.os
  tape : w'.tape = w.tape
  output : w'.output = w.output
  size : w.heap.size ≤ w'.heap.size
  block : ∀ k, k < D.B → k ∉ D.S → w'.heap[k]? = w.heap[k]?
theorem Frm.refl (D : Bk) (w : World) : Frm D w w := ⟨rfl, rfl, rfl, Nat.le_refl _, fun _ _ _ => rfl⟩
theorem Frm.trans {D : Bk} {a b c : World} (h : Frm D a b) (k : Frm D b c) : Frm D a c := ⟨k.os.trans h.os, k.tape.trans h.tape, k.output.trans h.output, Nat.le_trans h.size k.size, fun i hi hn => (k.block i hi hn).trans (h.block i hi hn)⟩
theorem Frm.of_but {D : Bk} {S : List Nat} {a b : World} (h : But S a b) (hs : ∀ k, k ∈ S → k ∈ D.S ∨ D.B ≤ k) (hB : D.B ≤ a.heap.size) : Frm D a b := ⟨h.os, h.tape, h.output, h.size, fun k hk hn => h.block k (by omega) (fun e => by
  rcases hs k e with h1 | h1
  · exact hn h1
  · omega)⟩
theorem Stc.frm {Q : Dat} {D : Bk} {w w' : World} (h : Stc Q D w) (ok : D.Ok Q.n) (f : Frm D w w') : Stc Q D w' := by
  have hc : ∀ b o, b < D.B ∧ b ∉ D.S → w'.cell? ⟨b, o, none⟩ = w.cell? ⟨b, o, none⟩ := fun b o hb => World.cell?_of_block (a := ⟨b, o, none⟩) (f.block b hb.1 hb.2)
  refine ⟨fun t ht => (hc _ _ ok.j1).trans (h.job t ht), fun t ht => (hc _ _ ok.j1).trans (h.bids t ht), fun t ht => (hc _ _ (ok.j2 t ht)).trans (h.nod t ht), fun t ht b hb => ⟨(h.bid t ht b hb).1, (hc _ _ (ok.j3 t ht)).trans (h.bid t ht b hb).2⟩, fun t ht i hi => (hc _ _ (ok.j4 t ht)).trans (h.nds t ht i hi), h.lt8, h.m1, h.n1, h.bl1⟩
def psV (ps : List Nat) : List Value := ps.map fun (t : Nat) => .int .i64 (t : Int)
/-- What turns: what the policy holds taken, the choice, the pending jobs, the allocations. -/
structure Dyn (Q : Dat) (D : Bk) (us : Nat → Bool) (ch : Nat → Int) (ps : List Nat) (ap : Nat → Value) (w : World) : Prop where
  pol : Pol D.PL us w
  k0 : w.cell? ⟨D.CB, 0, none⟩ = some (.iface 108 (.pointer (some ⟨D.PL, 0, none⟩)))
  k1 : w.cell? ⟨D.CB, 1, none⟩ = some (.slice (some ⟨D.JB, 0, none⟩) Q.n Q.n)
  k3 : w.cell? ⟨D.CB, 3, none⟩ = some (.slice (some ⟨D.CH, 0, none⟩) Q.n Q.n)
  k4 : w.cell? ⟨D.CB, 4, none⟩ = some (.slice (some ⟨D.AL, 0, none⟩) Q.n Q.n)
  k5 : ∃ v, w.cell? ⟨D.CB, 5, none⟩ = some v ∧ w.ownsRow D.B 3 1 v ps.length (psV ps)
  cho : ∀ t, t < Q.n → w.cell? ⟨D.CH, t, none⟩ = some (.int .i64 (ch t))
  al : ∀ t, t < Q.n → w.cell? ⟨D.AL, t * 6, none⟩ = some (ap t) ∧ w.cell? ⟨D.AL, t * 6 + 1, none⟩ = some (.slice none 0 0) ∧ w.cell? ⟨D.AL, t * 6 + 2, none⟩ = some (.slice none 0 0) ∧ w.cell? ⟨D.AL, t * 6 + 3, none⟩ = some (.int .i64 0) ∧ w.cell? ⟨D.AL, t * 6 + 4, none⟩ = some (.int .i64 0) ∧ w.cell? ⟨D.AL, t * 6 + 5, none⟩ = some (.int .i64 0)
  aps : ∀ t, t < Q.n → ∃ a l c, ap t = .slice a l c
  fz : ∀ b, b ∈ D.S → ∀ o, w.frozen? ⟨b, o, none⟩ = false
  stc : Stc Q D w
  hB : D.B ≤ w.heap.size
  psl : ∀ t, t ∈ ps → t < Q.n
  psn : ps.length ≤ 1024
theorem mem_S {D : Bk} : D.PL ∈ D.S ∧ D.CB ∈ D.S ∧ D.CH ∈ D.S ∧ D.AL ∈ D.S := by simp [Bk.S]
/-- Only the policy's block turned (and new ones came). -/
theorem Dyn.but {Q : Dat} {D : Bk} {us us' : Nat → Bool} {ch : Nat → Int} {ps : List Nat} {ap : Nat → Value} {w w' : World} (h : Dyn Q D us ch ps ap w) (ok : D.Ok Q.n) (hb : But [D.PL] w w') (hp : Pol D.PL us' w') : Dyn Q D us' ch ps ap w' := by
  have hB := h.hB
  have hs := hb.size
  have hblk : ∀ b, b < D.B → b ≠ D.PL → w'.heap[b]? = w.heap[b]? := fun b h1 h2 => hb.block b (by omega) (by simpa using h2)
  have hc : ∀ b o, b < D.B → b ≠ D.PL → w'.cell? ⟨b, o, none⟩ = w.cell? ⟨b, o, none⟩ := fun b o h1 h2 => World.cell?_of_block (a := ⟨b, o, none⟩) (hblk b h1 h2)
  have f : Frm D w w' := Frm.of_but hb (fun k hk => by simp only [List.mem_singleton] at hk; subst hk; exact .inl mem_S.1) hB
  refine ⟨hp, (hc _ _ ok.b2 ok.a1.symm).trans h.k0, (hc _ _ ok.b2 ok.a1.symm).trans h.k1, (hc _ _ ok.b2 ok.a1.symm).trans h.k3, (hc _ _ ok.b2 ok.a1.symm).trans h.k4, ?_, fun t ht => (hc _ _ ok.b3 ok.a2.symm).trans (h.cho t ht), fun t ht => ?_, h.aps, fun b hbS o => ?_, h.stc.frm ok f, by omega, h.psl, h.psn⟩
  · obtain ⟨v, e1, e2⟩ := h.k5
    refine ⟨v, (hc _ _ ok.b2 ok.a1.symm).trans e1, own_kept e2 fun k _ hk hl => hb.block k hl ?_⟩
    have := ok.b1
    simp only [List.mem_singleton]; omega
  · have := h.al t ht
    rw [hc _ _ ok.b4 ok.a3.symm, hc _ _ ok.b4 ok.a3.symm, hc _ _ ok.b4 ok.a3.symm, hc _ _ ok.b4 ok.a3.symm, hc _ _ ok.b4 ok.a3.symm, hc _ _ ok.b4 ok.a3.symm]
    exact this
  · by_cases e : b = D.PL
    · rw [e]; exact hp.fz o
    · have hbB : b < D.B := by
        have := ok.b1; have := ok.b2; have := ok.b3; have := ok.b4
        simp only [Bk.S, List.mem_cons, List.not_mem_nil, or_false] at hbS
        omega
      rw [World.frozen?_of_block (a := ⟨b, o, none⟩) (hblk b hbB e)]
      exact h.fz b hbS o
theorem Dyn.alloc {Q : Dat} {D : Bk} {us : Nat → Bool} {ch : Nat → Int} {ps : List Nat} {ap : Nat → Value} {w : World} (h : Dyn Q D us ch ps ap w) (ok : D.Ok Q.n) (o : Obj) : Dyn Q D us ch ps ap (w.alloc o) := h.but ok ((But.refl _ _).alloc o) (h.pol.alloc o)
theorem Dyn.drew {Q : Dat} {D : Bk} {us : Nat → Bool} {ch : Nat → Int} {ps : List Nat} {ap : Nat → Value} {w : World} (h : Dyn Q D us ch ps ap w) (ok : D.Ok Q.n) : Dyn Q D us ch ps ap w.drew := h.but ok (But.refl _ _).drew h.pol.drew
end Go.Proofs.Ybulkbfpk
