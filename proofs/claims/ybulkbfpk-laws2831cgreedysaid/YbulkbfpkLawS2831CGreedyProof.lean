/-
  The proof of 'Rows.LawS2831CGreedySaid': the walk is YbulkbfpkLawC's 'greedy_any'; here the row's frame round it.
-/
import Derived.Test.YbulkbfpkLawC
import Derived.ProofKit
import Derived.OpenShut
import Derived.ShutString
import Derived.ChangeOld
import Derived.Deep.SlicePairs
namespace Go.Proofs.Ybulkbfpk.lawS2831CGreedy
open Go.ChangeShapes Go.WideShapes Go.ChangeAt Go.RowKit
open Go.ChangeMaps (open_string shut_string)
open Go.Deep (open_slice open_slice1 choose_lt)
set_option linter.unusedVariables false

theorem own : ownKnob Yba.prog.godebug = none := by kernel_rfl
theorem laidOut : laidOutB Yba.prog = true := by kernel_rfl

/-- One raw bid. -/
structure Raw where
  ra : Option Addr
  rn : Nat
  rc : Nat
  xv : Nat → Int
instance : Inhabited Raw := ⟨⟨none, 0, 0, fun _ => 0⟩⟩
def Raw.Ok (W : World) (q : Raw) : Prop := (q.rn = 0 ∨ ∃ b o, q.ra = some ⟨b, o, none⟩ ∧ ∀ i, i < q.rn → W.cell? ⟨b, o + i, none⟩ = some (.int .u8 (q.xv i))) ∧ ∀ i, i < q.rn → 0 ≤ q.xv i ∧ q.xv i < 256
theorem raw_of {H : Type} {enc : TypeId × Value → H} {W : World} {v : Value} {x : DataW H × List MemPlace} {fuel : Nat}
    (h : DataW.trod enc Yba.prog W 0 (fun _ => true) true fuel 96 [v] = some x) :
    ∃ q : Raw, v = .slice q.ra q.rn q.rc ∧ q.Ok W := by
  rcases open_slice1 Yba.underlying96 (by kernel_rfl) h with ⟨hcs, _⟩ | ⟨a, len, cap, m, n, V, D, Pl, hcs, _, hl, hm, hmm, _, hx⟩
  · simp at hcs
    exact ⟨⟨none, 0, 0, fun _ => 0⟩, hcs, .inl rfl, fun i hi => absurd hi (Nat.not_lt_zero i)⟩
  · simp at hcs
    simp only [if_true] at hmm
    have each : ∀ i, i < len → ∃ z : Int, W.cell? (a.add i) = some (.int .u8 z) ∧ 0 ≤ z ∧ z < 256 := by
      intro i hi
      obtain ⟨c0, t0⟩ := hx i (by omega)
      obtain ⟨z, e0, _, wz⟩ := DataW.trod_int Yba.underlying5 t0
      simp at e0
      rw [e0] at c0
      have := Go.bounds_u8 wz
      exact ⟨z, c0, this.1, Int.lt_of_le_of_lt this.2 (by decide)⟩
    obtain ⟨sv, hsv⟩ := choose_lt each
    refine ⟨⟨some a, len, cap, sv⟩, hcs, ?_, fun i hi => (hsv i hi).2⟩
    by_cases h0 : len = 0
    · exact .inl h0
    · right
      obtain ⟨b, off, spot⟩ := a
      have hspot : spot = none := by simpa [Addr.add] using World.cell?_spot (hsv 0 (by omega)).1
      subst hspot
      refine ⟨b, off, rfl, fun j hj => ?_⟩
      have := (hsv j hj).1
      simp only [add_plain] at this
      exact this
/-- The bids of one job. -/
structure Bds where
  ba : Option Addr
  bn : Nat
  bc : Nat
  q : Nat → Raw
instance : Inhabited Bds := ⟨⟨none, 0, 0, fun _ => default⟩⟩
def Bds.Ok (W : World) (d : Bds) : Prop := (d.bn = 0 ∨ ∃ b o, d.ba = some ⟨b, o, none⟩ ∧ ∀ k, k < d.bn → W.cell? ⟨b, o + k, none⟩ = some (.slice (d.q k).ra (d.q k).rn (d.q k).rc)) ∧ ∀ k, k < d.bn → (d.q k).Ok W
theorem bids_of {H : Type} {enc : TypeId × Value → H} {W : World} {v : Value} {x : DataW H × List MemPlace} {fuel : Nat}
    (h : DataW.trod enc Yba.prog W 0 (fun _ => true) true fuel 93 [v] = some x) :
    ∃ d : Bds, v = .slice d.ba d.bn d.bc ∧ d.Ok W := by
  rcases open_slice1 Yba.underlying93 (by kernel_rfl) h with ⟨hcs, _⟩ | ⟨a, len, cap, m, n, V, D, Pl, hcs, _, hl, hm, hmm, _, hx⟩
  · simp at hcs
    exact ⟨⟨none, 0, 0, fun _ => default⟩, hcs, .inl rfl, fun i hi => absurd hi (Nat.not_lt_zero i)⟩
  · simp at hcs
    simp only [if_true] at hmm
    have each : ∀ i, i < len → ∃ q : Raw, W.cell? (a.add i) = some (.slice q.ra q.rn q.rc) ∧ q.Ok W := by
      intro i hi
      obtain ⟨c0, t0⟩ := hx i (by omega)
      obtain ⟨q, e0, ok⟩ := raw_of t0
      rw [e0] at c0
      exact ⟨q, c0, ok⟩
    obtain ⟨q, hq⟩ := choose_lt each
    refine ⟨⟨some a, len, cap, q⟩, hcs, ?_, fun i hi => (hq i hi).2⟩
    by_cases h0 : len = 0
    · exact .inl h0
    · right
      obtain ⟨b, off, spot⟩ := a
      have hspot : spot = none := by simpa [Addr.add] using World.cell?_spot (hq 0 (by omega)).1
      subst hspot
      refine ⟨b, off, rfl, fun j hj => ?_⟩
      have := (hq j hj).1
      simp only [add_plain] at this
      exact this
/-- One job. -/
structure Rec where
  core : Bool
  d : Bds
  pi : Int
instance : Inhabited Rec := ⟨⟨false, default, 0⟩⟩
def Rec.at (q : Rec) : Nat → Value
  | 0 => .bool q.core
  | 1 => .slice q.d.ba q.d.bn q.d.bc
  | _ => .int .i8 q.pi
set_option maxRecDepth 20000 in
theorem jobs_of {H : Type} {enc : TypeId × Value → H} {W : World} {a : Option Addr} {len cap : Nat} {d : DataW H} {p : List MemPlace}
    (h : DataW.Trod enc Yba.prog W 0 (fun _ => true) true 92 (.slice a len cap) d p) : ∃ (b o : Nat) (q : Nat → Rec), (len = 0 ∨ a = some ⟨b, o, none⟩) ∧ ∀ i, i < len → (∀ j, j < 3 → W.cell? ⟨b, o + i * 3 + j, none⟩ = some ((q i).at j)) ∧ (q i).d.Ok W ∧ -128 ≤ (q i).pi ∧ (q i).pi ≤ 127 := by
  obtain ⟨fuel, hf⟩ := h
  have ce : Yba.prog.cellsOf 95 = 3 := by kernel_rfl
  have c4 : Yba.prog.cellsOf 4 = 1 := by kernel_rfl
  have c93 : Yba.prog.cellsOf 93 = 1 := by kernel_rfl
  have c51 : Yba.prog.cellsOf 51 = 1 := by kernel_rfl
  rcases open_slice Yba.underlying92 hf with ⟨hcs, _⟩ | ⟨x, l, c, m, n, D, Pl, hcs, _, hl, hm, hmm, _, hx⟩
  · simp [Value.cells] at hcs
    exact ⟨0, 0, fun _ => default, .inl hcs.2.1, fun i hi => by omega⟩
  · simp [Value.cells] at hcs
    obtain ⟨rfl, rfl, rfl⟩ := hcs
    simp only [if_true] at hmm
    have each : ∀ i, i < len → ∃ q : Rec, (∀ j, j < 3 → W.cell? (x.add (i * 3 + j)) = some (q.at j)) ∧ q.d.Ok W ∧ -128 ≤ q.pi ∧ q.pi ≤ 127 := by
      intro i hi
      obtain ⟨cs', h1, h2⟩ := hx i (by omega)
      rw [ce] at h1
      obtain ⟨_, hlen, hcell⟩ := World.cells?_some h1
      obtain ⟨xs, k, hk, hxy, _, hxl, hf⟩ := DataW.trod_struct Yba.underlying95 h2
      match cs', hlen with
      | [v0, v1, v2], _ =>
        have g0 : DataW.trod enc Yba.prog W 0 (fun _ => true) true k 4 [v0] = xs[0]? := by
          have h := hf 0 _ rfl
          rw [show Yba.prog.cellsOf (Field.type _) = 1 from c4] at h
          exact h
        have g1 : DataW.trod enc Yba.prog W 0 (fun _ => true) true k 93 [v1] = xs[1]? := by
          have h := hf 1 _ rfl
          rw [show Yba.prog.cellsOf (Field.type _) = 1 from c93] at h
          exact h
        have g2 : DataW.trod enc Yba.prog W 0 (fun _ => true) true k 51 [v2] = xs[2]? := by
          have h := hf 2 _ rfl
          rw [show Yba.prog.cellsOf (Field.type _) = 1 from c51] at h
          exact h
        have hxs : xs.length = 3 := hxl
        rw [List.getElem?_eq_getElem (by omega)] at g0 g1 g2
        obtain ⟨z0, e0, _⟩ := DataW.trod_bool Yba.underlying4 g0
        obtain ⟨d1, e1, ok1⟩ := bids_of g1
        obtain ⟨z2, e2, _, w2⟩ := DataW.trod_int Yba.underlying51 g2
        simp only [List.cons.injEq, and_true] at e0 e2
        subst e0 e1 e2
        refine ⟨⟨z0, d1, z2⟩, fun j hj => ?_, ok1, Go.bounds_i8 w2⟩
        have := hcell j hj
        rw [Go.Deep.add_add] at this
        rw [this]
        match j, hj with
        | 0, _ | 1, _ | 2, _ => rfl
    obtain ⟨q, hq⟩ := choose_lt each
    obtain ⟨b, off, spot⟩ := x
    by_cases h0 : len = 0
    · exact ⟨0, 0, q, .inl h0, fun i hi => by omega⟩
    · have hspot : spot = none := by simpa [Addr.add] using World.cell?_spot ((hq 0 (by omega)).1 0 (by decide))
      subst hspot
      refine ⟨b, off, q, .inr rfl, fun i hi => ⟨fun j hj => ?_, (hq i hi).2⟩⟩
      have := (hq i hi).1 j hj
      simp only [add_plain] at this
      rw [Nat.add_assoc]
      exact this

theorem law_all {H : Type} {enc : TypeId × Value → H} {W : World} {a0 : Option Addr} {n cap : Nat} {d0 : DataW H} {p0 : List MemPlace}
    (h0 : DataW.Trod enc Yba.prog W 0 (fun _ => true) true 92 (.slice a0 n cap) d0 p0) :
    Calls Yba.prog 4 #[.slice a0 n cap] W fun e w' => e = .returned (.bool true) ∧ Below W.heap.size W w' := by
  obtain ⟨b, o, q, ha, hq⟩ := jobs_of h0
  exact greedy_any ⟨n, fun t => (q t).core, fun t => (q t).pi, fun t => (q t).d.bn, fun t k => ((q t).d.q k).rn, fun t k => ((q t).d.q k).xv⟩
    ⟨a0, cap, b, o, fun t => (q t).d.ba, fun t => (q t).d.bc, fun t k => ((q t).d.q k).ra, fun t k => ((q t).d.q k).rc⟩ W
    ⟨ha, fun t ht => (hq t ht).1 0 (by decide), fun t ht => (hq t ht).1 1 (by decide), fun t ht => (hq t ht).1 2 (by decide), fun t ht => (hq t ht).2.1.1, fun t ht k hk => ((hq t ht).2.1.2 k hk).1, fun t ht k hk => ((hq t ht).2.1.2 k hk).2, fun t ht => (hq t ht).2.2⟩

set_option maxRecDepth 100000 in
theorem lifted (os : Os) (started : os.Started) (H : Type) (enc : TypeId × Value → H) :
    ReturnsInHanded {} Yba.checked os 4 .any (Rows.lawS2831CGreedySpec.pre6 enc Yba.prog Yba.f4 Rows.lawS2831CGreedyRow.domain false) (Rows.lawS2831CGreedySpec.post enc Yba.prog Yba.f4 false true false false) := by
  refine returnsInHanded_of_change (C := Yba.checked) own started (by kernel_rfl) Yba.func4
    (ChangeSpec.witness6 (enc := enc) (C := Yba.checked) false ⟨#[], #[.slice none 0 0], []⟩ 8 (by kernel_rfl) (by kernel_rfl) (by kernel_rfl) (by kernel_rfl)) ?_
  intro W base args ds gs before hval0 hW hcnd _
  have hval : ∀ (j : Nat) t v, Yba.f4.params[j]? = some t → args[j]? = some v → Value.okWide Yba.prog W .any base t v := hval0
  have hW' := hW
  obtain ⟨p, q, hA0, hV, rfl, hfz, hnd⟩ := hW
  have hA : DataW.TrodAll enc Yba.prog W 0 (fun _ => true) true Yba.f4.params.toList args.toList ds p := hA0
  rw [Yba.params4] at hA hval
  obtain ⟨v0, vs0, d0, ds0, p0, q0, hargs, rfl, rfl, h0, r0⟩ := trodAll_cons hA
  obtain ⟨rfl, rfl, rfl⟩ := trodAll_nil r0
  obtain rfl : args = #[v0] := by cases args; simp_all
  obtain ⟨rfl, rfl⟩ := trodVars_none hV
  obtain ⟨a0, len0, cap0, rfl⟩ := okWide_slice Yba.underlying92 (hval 0 92 v0 rfl rfl)
  have k0 := h0
  have lt0 : ∀ x ∈ p0, x.block < W.heap.size := by obtain ⟨m, hm⟩ := k0; exact DataW.trod_lt m _ _ _ hm
  clear hA0 hval0
  refine (law_all h0).mono fun e W' ⟨he, bel⟩ => ?_
  subst he
  exact ⟨_, rfl, _, _, _, [], _, [], hW', trodAll_mk1 (shut_bool Yba.underlying4 _), (trodAll_cons_mk (Below.trod laidOut (by kernel_rfl) (of_decide_eq_true (by kernel_rfl)) k0 bel lt0) trodAll_mk0), rfl, bel.frame _, fun h => by cases h⟩

theorem over : Rows.lawS2831CGreedyRow.holds Yba.pinned (OpenSpec.ofChange Rows.lawS2831CGreedySpec) :=
  OpenClaim.holds_of_wide 4 Yba.f4 rfl rfl rfl rfl rfl rfl rfl ⟨rfl, rfl, rfl, rfl, rfl⟩ rfl rfl rfl rfl rfl (by kernel_rfl) Yba.func4 (by kernel_rfl)
    (of_decide_eq_true (by kernel_rfl)) (by unfold Func.isWrapper; first | (rw [if_pos (by decide +kernel)]; kernel_rfl) | (rw [if_neg (by decide +kernel)]; exact ⟨rfl, rfl⟩))
    (fun os started H enc _ => lifted os started H enc)

/-- ████ THE STATEMENT ████ -/
theorem proved : Rows.LawS2831CGreedySaid := over
end Go.Proofs.Ybulkbfpk.lawS2831CGreedy
