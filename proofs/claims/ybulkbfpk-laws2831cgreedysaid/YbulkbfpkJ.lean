import Derived.Test.YbulkbfpkPf
namespace Go.Proofs.Ybulkbfpk
open Go.RowKit Go.Shelf
/-- The plain data of the input of the greedy law. -/
structure JIn where
  n : Nat
  core : Nat → Bool
  pi : Nat → Int
  bn : Nat → Nat
  rn : Nat → Nat → Nat
  xv : Nat → Nat → Nat → Int
structure JAd where
  a0 : Option Addr
  cap : Nat
  ib : Nat
  io : Nat
  ba : Nat → Option Addr
  bc : Nat → Nat
  ra : Nat → Nat → Option Addr
  rc : Nat → Nat → Nat
namespace JIn
def picked (J : JIn) (t : Nat) : Bool := decide (0 < J.bn t) && decide (0 ≤ J.pi t)
def pk (J : JIn) (t : Nat) : Int := if J.picked t then J.pi t % (J.bn t : Int) else -1
def nd (J : JIn) (t k i : Nat) : Nat := (J.xv t k i % 8).toNat
def dat (J : JIn) : Dat := { n := J.n, core := J.core, pk := J.pk, m := fun t => if J.picked t then J.rn t (J.pk t).toNat else 0, nf := fun t i => J.nd t (J.pk t).toNat i }
theorem pk_neg {J : JIn} {t : Nat} (h : J.picked t = false) : J.pk t = -1 := by simp [pk, h]
theorem pk_nat {J : JIn} {t : Nat} (h : J.picked t = true) : ∃ b : Nat, J.pk t = b ∧ b < J.bn t := by
  have h1 := h
  simp only [picked, Bool.and_eq_true, decide_eq_true_eq] at h1
  have h2 : J.pk t = J.pi t % (J.bn t : Int) := by simp [pk, h]
  have h3 := Int.emod_nonneg (J.pi t) (show (J.bn t : Int) ≠ 0 by omega)
  have h4 := Int.emod_lt_of_pos (J.pi t) (show (0 : Int) < (J.bn t : Int) by omega)
  exact ⟨(J.pk t).toNat, by omega, by omega⟩
theorem pk_iff {J : JIn} {t : Nat} : J.pk t < 0 ↔ J.picked t = false := by
  cases h : J.picked t with
  | false => simp [pk_neg h]
  | true =>
    obtain ⟨b, hb, _⟩ := pk_nat h
    simp [hb]
end JIn
/-- The input, as it lies; the bounds apart. -/
structure EnvJ (J : JIn) (A : JAd) (w : World) : Prop where
  adr : J.n = 0 ∨ A.a0 = some ⟨A.ib, A.io, none⟩
  c0 : ∀ t, t < J.n → w.cell? ⟨A.ib, A.io + t * 3, none⟩ = some (.bool (J.core t))
  c1 : ∀ t, t < J.n → w.cell? ⟨A.ib, A.io + t * 3 + 1, none⟩ = some (.slice (A.ba t) (J.bn t) (A.bc t))
  c2 : ∀ t, t < J.n → w.cell? ⟨A.ib, A.io + t * 3 + 2, none⟩ = some (.int .i8 (J.pi t))
  bid : ∀ t, t < J.n → J.bn t = 0 ∨ ∃ b o, A.ba t = some ⟨b, o, none⟩ ∧ ∀ k, k < J.bn t → w.cell? ⟨b, o + k, none⟩ = some (.slice (A.ra t k) (J.rn t k) (A.rc t k))
  raw : ∀ t, t < J.n → ∀ k, k < J.bn t → J.rn t k = 0 ∨ ∃ b o, A.ra t k = some ⟨b, o, none⟩ ∧ ∀ i, i < J.rn t k → w.cell? ⟨b, o + i, none⟩ = some (.int .u8 (J.xv t k i))
  xb : ∀ t, t < J.n → ∀ k, k < J.bn t → ∀ i, i < J.rn t k → 0 ≤ J.xv t k i ∧ J.xv t k i < 256
  pb : ∀ t, t < J.n → -128 ≤ J.pi t ∧ J.pi t ≤ 127
theorem EnvJ.next {J : JIn} {A : JAd} {w w' : World} (h : EnvJ J A w) (hb : Below w.heap.size w w') : EnvJ J A w' := by
  have hc : ∀ b o u, w.cell? ⟨b, o, none⟩ = some u → w'.cell? ⟨b, o, none⟩ = some u := fun b o u hu => (World.cell?_of_block (a := ⟨b, o, none⟩) (hb.block b (lt_of_cell hu))).trans hu
  refine ⟨h.adr, fun t ht => hc _ _ _ (h.c0 t ht), fun t ht => hc _ _ _ (h.c1 t ht), fun t ht => hc _ _ _ (h.c2 t ht), fun t ht => ?_, fun t ht k hk => ?_, h.xb, h.pb⟩
  · rcases h.bid t ht with h | ⟨b, o, e, hcc⟩
    · exact .inl h
    · exact .inr ⟨b, o, e, fun k hk => hc _ _ _ (hcc k hk)⟩
  · rcases h.raw t ht k hk with h | ⟨b, o, e, hcc⟩
    · exact .inl h
    · exact .inr ⟨b, o, e, fun i hi => hc _ _ _ (hcc i hi)⟩
structure Bnd (J : JIn) : Prop where
  n1 : J.n ≤ 300
  b1 : ∀ t, t < J.n → J.bn t ≤ 300
  r1 : ∀ t, t < J.n → ∀ k, k < J.bn t → J.rn t k ≤ 300
end Go.Proofs.Ybulkbfpk
