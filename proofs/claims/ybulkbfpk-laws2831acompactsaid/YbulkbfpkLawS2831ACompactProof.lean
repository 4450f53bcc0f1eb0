/-
  The proof of 'Rows.LawS2831ACompactSaid': the walk is YbulkbfpkLawA's 'law_in' and 'law_out'; here the row's frame round it (the guide's own way for a law that writes nothing that was there).
-/
import Derived.Test.YbulkbfpkLawA
import Derived.ProofKit
import Derived.OpenShut
import Derived.ShutString
import Derived.ChangeOld
import Derived.Deep.SlicePairs
namespace Go.Proofs.Ybulkbfpk.lawS2831ACompact
open Go.ChangeShapes Go.WideShapes Go.ChangeAt Go.RowKit
open Go.ChangeMaps (open_string shut_string)
open Go.Deep (open_slice open_slice1 choose_lt)
set_option linter.unusedVariables false

theorem own : ownKnob Yba.prog.godebug = none := by kernel_rfl
theorem laidOut : laidOutB Yba.prog = true := by kernel_rfl

/-- One element's data. -/
structure Rec where
  st : Int
  en : Int
  atm : Int
  rom : Int
  fre : Int
  opn : Int
  dev : Int
  cor : Int
  sa : Option Addr
  sm : Nat
  sc : Nat
  sv : Nat → Int
instance : Inhabited Rec := ⟨⟨0, 0, 0, 0, 0, 0, 0, 0, none, 0, 0, fun _ => 0⟩⟩
def Rec.at (q : Rec) : Nat → Value
  | 0 => .int .u8 q.st
  | 1 => .int .u8 q.en
  | 2 => .int .i64 q.atm
  | 3 => .int .i64 q.rom
  | 4 => .int .i64 q.fre
  | 5 => .int .i32 q.opn
  | 6 => .int .i32 q.dev
  | 7 => .int .i32 q.cor
  | _ => .slice q.sa q.sm q.sc
theorem sight_of {H : Type} {enc : TypeId × Value → H} {W : World} {v : Value} {x : DataW H × List MemPlace} {fuel : Nat}
    (h : DataW.trod enc Yba.prog W 0 (fun _ => true) true fuel 24 [v] = some x) :
    ∃ (sa : Option Addr) (sm sc : Nat) (sv : Nat → Int), v = .slice sa sm sc ∧ (sm = 0 ∨ ∃ b o, sa = some ⟨b, o, none⟩ ∧ b < W.heap.size ∧ ∀ j, j < sm → W.cell? ⟨b, o + j, none⟩ = some (.int .i32 (sv j))) ∧ (sa = none → sm = 0 ∧ sc = 0) := by
  rcases open_slice1 Yba.underlying24 (by kernel_rfl) h with ⟨hcs, _⟩ | ⟨a, len, cap, m, n, V, D, Pl, hcs, _, hl, hm, hmm, _, hx⟩
  · simp at hcs
    exact ⟨none, 0, 0, fun _ => 0, hcs, .inl rfl, fun _ => ⟨rfl, rfl⟩⟩
  · simp at hcs
    simp only [if_true] at hmm
    have each : ∀ i, i < len → ∃ z : Int, W.cell? (a.add i) = some (.int .i32 z) := by
      intro i hi
      obtain ⟨c0, t0⟩ := hx i (by omega)
      obtain ⟨z, e0, _⟩ := DataW.trod_int Yba.underlying21 t0
      simp at e0
      rw [e0] at c0
      exact ⟨z, c0⟩
    obtain ⟨sv, hsv⟩ := choose_lt each
    refine ⟨some a, len, cap, sv, hcs, ?_, fun e => by cases e⟩
    by_cases h0 : len = 0
    · exact .inl h0
    · right
      obtain ⟨b, off, spot⟩ := a
      have hspot : spot = none := by simpa [Addr.add] using World.cell?_spot (hsv 0 (by omega))
      subst hspot
      have hlt : b < W.heap.size := by
        have := World.block_lt_of_cell? W _ (hsv 0 (by omega))
        simpa [Addr.add] using this
      refine ⟨b, off, rfl, hlt, fun j hj => ?_⟩
      have := hsv j hj
      simp only [add_plain] at this
      exact this

set_option maxRecDepth 20000 in
theorem insts_of {H : Type} {enc : TypeId × Value → H} {W : World} {a : Option Addr} {len cap : Nat} {d : DataW H} {p : List MemPlace} (hn : 0 < len)
    (h : DataW.Trod enc Yba.prog W 0 (fun _ => true) true 22 (.slice a len cap) d p) : ∃ (b o : Nat) (q : Nat → Rec), a = some ⟨b, o, none⟩ ∧ b < W.heap.size ∧ ∀ i, i < len → (∀ j, j < 9 → W.cell? ⟨b, o + i * 9 + j, none⟩ = some ((q i).at j)) ∧
      (0 ≤ (q i).st ∧ (q i).st < 256) ∧ (0 ≤ (q i).en ∧ (q i).en < 256) ∧ ((q i).sm = 0 ∨ ∃ b o, (q i).sa = some ⟨b, o, none⟩ ∧ b < W.heap.size ∧ ∀ j, j < (q i).sm → W.cell? ⟨b, o + j, none⟩ = some (.int .i32 ((q i).sv j))) ∧ ((q i).sa = none → (q i).sm = 0 ∧ (q i).sc = 0) := by
  obtain ⟨fuel, hf⟩ := h
  have ce : Yba.prog.cellsOf 26 = 9 := by kernel_rfl
  have c5 : Yba.prog.cellsOf 5 = 1 := by kernel_rfl
  have c2 : Yba.prog.cellsOf 2 = 1 := by kernel_rfl
  have c21 : Yba.prog.cellsOf 21 = 1 := by kernel_rfl
  have c24 : Yba.prog.cellsOf 24 = 1 := by kernel_rfl
  rcases open_slice Yba.underlying22 hf with ⟨hcs, _⟩ | ⟨x, l, c, m, n, D, Pl, hcs, _, hl, hm, hmm, _, hx⟩
  · simp [Value.cells] at hcs
    omega
  · simp [Value.cells] at hcs
    obtain ⟨rfl, rfl, rfl⟩ := hcs
    simp only [if_true] at hmm
    have each : ∀ i, i < len → ∃ q : Rec, (∀ j, j < 9 → W.cell? (x.add (i * 9 + j)) = some (q.at j)) ∧ (0 ≤ q.st ∧ q.st < 256) ∧ (0 ≤ q.en ∧ q.en < 256) ∧ (q.sm = 0 ∨ ∃ b o, q.sa = some ⟨b, o, none⟩ ∧ b < W.heap.size ∧ ∀ j, j < q.sm → W.cell? ⟨b, o + j, none⟩ = some (.int .i32 (q.sv j))) ∧ (q.sa = none → q.sm = 0 ∧ q.sc = 0) := by
      intro i hi
      obtain ⟨cs', h1, h2⟩ := hx i (by omega)
      rw [ce] at h1
      obtain ⟨_, hlen, hcell⟩ := World.cells?_some h1
      obtain ⟨xs, k, hk, hxy, _, hxl, hf⟩ := DataW.trod_struct Yba.underlying26 h2
      match cs', hlen with
      | [v0, v1, v2, v3, v4, v5, v6, v7, v8], _ =>
        have g0 : DataW.trod enc Yba.prog W 0 (fun _ => true) true k 5 [v0] = xs[0]? := by
          have h := hf 0 _ rfl
          rw [show Yba.prog.cellsOf (Field.type _) = 1 from c5] at h
          exact h
        have g1 : DataW.trod enc Yba.prog W 0 (fun _ => true) true k 5 [v1] = xs[1]? := by
          have h := hf 1 _ rfl
          rw [show Yba.prog.cellsOf (Field.type _) = 1 from c5] at h
          exact h
        have g2 : DataW.trod enc Yba.prog W 0 (fun _ => true) true k 2 [v2] = xs[2]? := by
          have h := hf 2 _ rfl
          rw [show Yba.prog.cellsOf (Field.type _) = 1 from c2] at h
          exact h
        have g3 : DataW.trod enc Yba.prog W 0 (fun _ => true) true k 2 [v3] = xs[3]? := by
          have h := hf 3 _ rfl
          rw [show Yba.prog.cellsOf (Field.type _) = 1 from c2] at h
          exact h
        have g4 : DataW.trod enc Yba.prog W 0 (fun _ => true) true k 2 [v4] = xs[4]? := by
          have h := hf 4 _ rfl
          rw [show Yba.prog.cellsOf (Field.type _) = 1 from c2] at h
          exact h
        have g5 : DataW.trod enc Yba.prog W 0 (fun _ => true) true k 21 [v5] = xs[5]? := by
          have h := hf 5 _ rfl
          rw [show Yba.prog.cellsOf (Field.type _) = 1 from c21] at h
          exact h
        have g6 : DataW.trod enc Yba.prog W 0 (fun _ => true) true k 21 [v6] = xs[6]? := by
          have h := hf 6 _ rfl
          rw [show Yba.prog.cellsOf (Field.type _) = 1 from c21] at h
          exact h
        have g7 : DataW.trod enc Yba.prog W 0 (fun _ => true) true k 21 [v7] = xs[7]? := by
          have h := hf 7 _ rfl
          rw [show Yba.prog.cellsOf (Field.type _) = 1 from c21] at h
          exact h
        have g8 : DataW.trod enc Yba.prog W 0 (fun _ => true) true k 24 [v8] = xs[8]? := by
          have h := hf 8 _ rfl
          rw [show Yba.prog.cellsOf (Field.type _) = 1 from c24] at h
          exact h
        have hxs : xs.length = 9 := hxl
        rw [List.getElem?_eq_getElem (by omega)] at g0 g1 g2 g3 g4 g5 g6 g7 g8
        obtain ⟨z0, e0, _, w0⟩ := DataW.trod_int Yba.underlying5 g0
        obtain ⟨z1, e1, _, w1⟩ := DataW.trod_int Yba.underlying5 g1
        obtain ⟨z2, e2, _⟩ := DataW.trod_int Yba.underlying2 g2
        obtain ⟨z3, e3, _⟩ := DataW.trod_int Yba.underlying2 g3
        obtain ⟨z4, e4, _⟩ := DataW.trod_int Yba.underlying2 g4
        obtain ⟨z5, e5, _⟩ := DataW.trod_int Yba.underlying21 g5
        obtain ⟨z6, e6, _⟩ := DataW.trod_int Yba.underlying21 g6
        obtain ⟨z7, e7, _⟩ := DataW.trod_int Yba.underlying21 g7
        obtain ⟨sa, sm, sc, sv, e8, hsg, hsn⟩ := sight_of g8
        simp only [List.cons.injEq, and_true] at e0 e1 e2 e3 e4 e5 e6 e7
        subst e0 e1 e2 e3 e4 e5 e6 e7 e8
        refine ⟨⟨z0, z1, z2, z3, z4, z5, z6, z7, sa, sm, sc, sv⟩, fun j hj => ?_, by have := Go.bounds_u8 w0; exact ⟨this.1, Int.lt_of_le_of_lt this.2 (by decide)⟩, by have := Go.bounds_u8 w1; exact ⟨this.1, Int.lt_of_le_of_lt this.2 (by decide)⟩, hsg, hsn⟩
        have := hcell j hj
        rw [Go.Deep.add_add] at this
        rw [this]
        match j, hj with
        | 0, _ | 1, _ | 2, _ | 3, _ | 4, _ | 5, _ | 6, _ | 7, _ | 8, _ => rfl
    obtain ⟨q, hq⟩ := choose_lt each
    obtain ⟨b, off, spot⟩ := x
    have hspot : spot = none := by simpa [Addr.add] using World.cell?_spot ((hq 0 hn).1 0 (by decide))
    subst hspot
    have hlt : b < W.heap.size := by
      have := World.block_lt_of_cell? W _ ((hq 0 hn).1 0 (by decide))
      simpa [Addr.add] using this
    refine ⟨b, off, q, rfl, hlt, fun i hi => ⟨fun j hj => ?_, (hq i hi).2⟩⟩
    have := (hq i hi).1 j hj
    simp only [add_plain] at this
    rw [Nat.add_assoc]
    exact this

theorem curs_of {H : Type} {enc : TypeId × Value → H} {W : World} {a : Option Addr} {len cap : Nat} {d : DataW H} {p : List MemPlace}
    (h : DataW.Trod enc Yba.prog W 0 (fun _ => true) true 23 (.slice a len cap) d p) : ∃ (c0 : Nat → Int), (len = 0 ∨ ∃ b o, a = some ⟨b, o, none⟩ ∧ b < W.heap.size ∧ ∀ i, i < len → W.cell? ⟨b, o + i, none⟩ = some (.int .i64 (c0 i))) ∧ ∀ i, i < len → -9223372036854775808 ≤ c0 i ∧ c0 i ≤ 9223372036854775807 := by
  obtain ⟨fuel, hf⟩ := h
  rcases open_slice1 Yba.underlying23 (by kernel_rfl) hf with ⟨hcs, _⟩ | ⟨x, l, c, m, n, V, D, Pl, hcs, _, hl, hm, hmm, _, hx⟩
  · simp [Value.cells] at hcs
    obtain ⟨rfl, rfl, rfl⟩ := hcs
    exact ⟨fun _ => 0, .inl rfl, fun i hi => by omega⟩
  · simp [Value.cells] at hcs
    obtain ⟨rfl, rfl, rfl⟩ := hcs
    simp only [if_true] at hmm
    have each : ∀ i, i < len → ∃ z : Int, W.cell? (x.add i) = some (.int .i64 z) ∧ -9223372036854775808 ≤ z ∧ z ≤ 9223372036854775807 := by
      intro i hi
      obtain ⟨c0, t0⟩ := hx i (by omega)
      obtain ⟨z, e0, _, wz⟩ := DataW.trod_int Yba.underlying3 t0
      simp at e0
      rw [e0] at c0
      have := bounds_i64 wz
      exact ⟨z, c0, this.1, this.2⟩
    obtain ⟨c0, hc0⟩ := choose_lt each
    refine ⟨c0, ?_, fun i hi => (hc0 i hi).2⟩
    by_cases h0 : len = 0
    · exact .inl h0
    · right
      obtain ⟨b, off, spot⟩ := x
      have hspot : spot = none := by simpa [Addr.add] using World.cell?_spot (hc0 0 (by omega)).1
      subst hspot
      have hlt : b < W.heap.size := by
        have := World.block_lt_of_cell? W _ (hc0 0 (by omega)).1
        simpa [Addr.add] using this
      refine ⟨b, off, rfl, hlt, fun j hj => ?_⟩
      have := (hc0 j hj).1
      simp only [add_plain] at this
      exact this

theorem law_all {H : Type} {enc : TypeId × Value → H} {W : World} {a0 a1 : Option Addr} {n acap c ccap : Nat} {kd : Bool} {d0 d1 : DataW H} {p0 p1 : List MemPlace}
    (h0 : DataW.Trod enc Yba.prog W 0 (fun _ => true) true 22 (.slice a0 n acap) d0 p0) (h1 : DataW.Trod enc Yba.prog W 0 (fun _ => true) true 23 (.slice a1 c ccap) d1 p1) :
    Calls Yba.prog 3 #[.slice a0 n acap, .slice a1 c ccap, .bool kd] W fun e w' => e = .returned (.bool true) ∧ Below W.heap.size W w' := by
  by_cases hb : n = 0 ∨ 1024 < n ∨ 1024 < c
  · exact law_out a0 a1 n acap c ccap kd W hb
  · obtain ⟨b, o, q, rfl, hlt, hq⟩ := insts_of (by omega) h0
    obtain ⟨c0, hc0, hcz⟩ := curs_of h1
    have := law_in ⟨n, fun i => (q i).st, fun i => (q i).en, fun i => (q i).atm, fun i => (q i).rom, fun i => (q i).fre, fun i => (q i).opn, fun i => (q i).dev, fun i => (q i).cor, fun i => (q i).sm, fun i => (q i).sv, kd⟩
      ⟨b, o, acap, fun i => (q i).sa, fun i => (q i).sc, a1, c, ccap, c0⟩ W
      ⟨fun i hi j hj => ((hq i hi).1 j hj).trans (by
        match j, hj with
        | 0, _ | 1, _ | 2, _ | 3, _ | 4, _ | 5, _ | 6, _ | 7, _ | 8, _ => rfl), hlt, fun i hi => (hq i hi).2.2.2.1, fun i hi => (hq i hi).2.2.2.2, hc0, by show 0 < n; omega, by show n ≤ 1024; omega, by show c ≤ 1024; omega, fun i hi => (hq i hi).2.1, fun i hi => (hq i hi).2.2.1, hcz⟩
    exact this

set_option maxRecDepth 100000 in
theorem lifted (os : Os) (started : os.Started) (H : Type) (enc : TypeId × Value → H) :
    ReturnsInHanded {} Yba.checked os 3 .any (Rows.lawS2831ACompactSpec.pre6 enc Yba.prog Yba.f3 Rows.lawS2831ACompactRow.domain false) (Rows.lawS2831ACompactSpec.post enc Yba.prog Yba.f3 false true false false) := by
  refine returnsInHanded_of_change (C := Yba.checked) own started (by kernel_rfl) Yba.func3
    (ChangeSpec.witness6 (enc := enc) (C := Yba.checked) false ⟨#[], #[.slice none 0 0, .slice none 0 0, .bool false], []⟩ 8 (by kernel_rfl) (by kernel_rfl) (by kernel_rfl) (by kernel_rfl)) ?_
  intro W base args ds gs before hval0 hW hcnd _
  have hval : ∀ (j : Nat) t v, Yba.f3.params[j]? = some t → args[j]? = some v → Value.okWide Yba.prog W .any base t v := hval0
  have hW' := hW
  obtain ⟨p, q, hA0, hV, rfl, hfz, hnd⟩ := hW
  have hA : DataW.TrodAll enc Yba.prog W 0 (fun _ => true) true Yba.f3.params.toList args.toList ds p := hA0
  rw [Yba.params3] at hA hval
  obtain ⟨v0, vs0, d0, ds0, p0, q0, hargs, rfl, rfl, h0, r0⟩ := trodAll_cons hA
  obtain ⟨v1, vs1, d1, ds1, p1, q1, rfl, rfl, rfl, h1, r1⟩ := trodAll_cons r0
  obtain ⟨v2, vs2, d2, ds2, p2, q2, rfl, rfl, rfl, h2, r2⟩ := trodAll_cons r1
  obtain ⟨rfl, rfl, rfl⟩ := trodAll_nil r2
  obtain rfl : args = #[v0, v1, v2] := by cases args; simp_all
  obtain ⟨rfl, rfl⟩ := trodVars_none hV
  obtain ⟨a0, len0, cap0, rfl⟩ := okWide_slice Yba.underlying22 (hval 0 22 v0 rfl rfl)
  obtain ⟨a1, len1, cap1, rfl⟩ := okWide_slice Yba.underlying23 (hval 1 23 v1 rfl rfl)
  have k0 := h0
  have k1 := h1
  have lt0 : ∀ x ∈ p0, x.block < W.heap.size := by obtain ⟨m, hm⟩ := k0; exact DataW.trod_lt m _ _ _ hm
  have lt1 : ∀ x ∈ p1, x.block < W.heap.size := by obtain ⟨m, hm⟩ := k1; exact DataW.trod_lt m _ _ _ hm
  obtain ⟨a2, rfl, rfl, rfl⟩ := open_bool Yba.underlying4 (hval 2 4 v2 rfl rfl) h2
  clear hA0 hval0
  refine (law_all (kd := a2) h0 h1).mono fun e W' ⟨he, bel⟩ => ?_
  subst he
  exact ⟨_, rfl, _, _, _, [], _, [], hW', trodAll_mk1 (shut_bool Yba.underlying4 _), (trodAll_cons_mk (Below.trod laidOut (by kernel_rfl) (of_decide_eq_true (by kernel_rfl)) k0 bel lt0) (trodAll_cons_mk (Below.trod laidOut (by kernel_rfl) (of_decide_eq_true (by kernel_rfl)) k1 bel lt1) (trodAll_cons_mk (shut_bool Yba.underlying4 _) trodAll_mk0))), rfl, bel.frame _, fun h => by cases h⟩

theorem over : Rows.lawS2831ACompactRow.holds Yba.pinned (OpenSpec.ofChange Rows.lawS2831ACompactSpec) :=
  OpenClaim.holds_of_wide 3 Yba.f3 rfl rfl rfl rfl rfl rfl rfl ⟨rfl, rfl, rfl, rfl, rfl⟩ rfl rfl rfl rfl rfl (by kernel_rfl) Yba.func3 (by kernel_rfl)
    (of_decide_eq_true (by kernel_rfl)) (by unfold Func.isWrapper; first | (rw [if_pos (by decide +kernel)]; kernel_rfl) | (rw [if_neg (by decide +kernel)]; exact ⟨rfl, rfl⟩))
    (fun os started H enc _ => lifted os started H enc)

/-- ████ THE STATEMENT ████ -/
theorem proved : Rows.LawS2831ACompactSaid := over
end Go.Proofs.Ybulkbfpk.lawS2831ACompact
