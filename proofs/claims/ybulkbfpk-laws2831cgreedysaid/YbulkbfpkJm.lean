import Derived.Test.YbulkbfpkJ
namespace Go.Proofs.Ybulkbfpk
open Go.RowKit Go.Shelf
theorem make97 (n : Nat) (hn : n ≤ 1024) (w : World) : ∃ C : Array Value, (∀ k, k < n → ∀ j, j < 5 → ∃ u, C[k * 5 + j]? = some u) ∧ (Instr.makeSlice 97 (.int .i64 n) (.int .i64 n)).run Yba.prog w = .ok (.slice (some ⟨w.heap.size, 0, none⟩) n n) (w.alloc (.cells C 106)) := by
  obtain ⟨i, h1, h2, h3, h4⟩ := info_of (t := 106) (z := .agg #[.int .i64 0, .pointer none, .int .i64 0, .int .i64 0, .slice none 0 0]) (s := 5) (b := 56) (by kernel_rfl)
  obtain ⟨C, _, c2, c3⟩ := make_gen Yba.underlying97 h1 h2 h3 n (by omega) (by rw [h4]; omega) (by omega) w
  refine ⟨C, fun k hk j hj => ?_, by simpa using c3⟩
  have h := c2 k (by simpa using hk) j hj
  match j, hj with
  | 0, _ | 1, _ | 2, _ | 3, _ | 4, _ => exact ⟨_, h⟩
theorem make98 (n : Nat) (hn : n ≤ 1024) (w : World) : ∃ C : Array Value, (∀ k, k < n → C[k]? = some (.slice none 0 0)) ∧ (Instr.makeSlice 98 (.int .i64 n) (.int .i64 n)).run Yba.prog w = .ok (.slice (some ⟨w.heap.size, 0, none⟩) n n) (w.alloc (.cells C 23)) := by
  obtain ⟨i, h1, h2, h3, h4⟩ := info_of (t := 23) (z := .slice none 0 0) (s := 1) (b := 24) (by kernel_rfl)
  obtain ⟨C, _, c2, c3⟩ := make_gen Yba.underlying98 h1 h2 h3 n (by omega) (by rw [h4]; omega) (by omega) w
  exact ⟨C, fun k hk => by simpa [Value.cells] using c2 k (by simpa using hk) 0 (by decide), by simpa using c3⟩
theorem make99 (n : Nat) (hn : n ≤ 1024) (w : World) : ∃ C : Array Value, (∀ k, k < n → ∀ j, j < 3 → ∃ u, C[k * 3 + j]? = some u) ∧ (Instr.makeSlice 99 (.int .i64 n) (.int .i64 n)).run Yba.prog w = .ok (.slice (some ⟨w.heap.size, 0, none⟩) n n) (w.alloc (.cells C 102)) := by
  obtain ⟨i, h1, h2, h3, h4⟩ := info_of (t := 102) (z := .agg #[.slice none 0 0, .int .i64 0, .float .f64 0]) (s := 3) (b := 40) (by kernel_rfl)
  obtain ⟨C, _, c2, c3⟩ := make_gen Yba.underlying99 h1 h2 h3 n (by omega) (by rw [h4]; omega) (by omega) w
  refine ⟨C, fun k hk j hj => ?_, by simpa using c3⟩
  have h := c2 k (by simpa using hk) j hj
  match j, hj with
  | 0, _ | 1, _ | 2, _ => exact ⟨_, h⟩
theorem make113 (n : Nat) (hn : n ≤ 1024) (w : World) : ∃ C : Array Value, (∀ k, k < n → C[k * 6]? = some (.slice none 0 0) ∧ C[k * 6 + 1]? = some (.slice none 0 0) ∧ C[k * 6 + 2]? = some (.slice none 0 0) ∧ C[k * 6 + 3]? = some (.int .i64 0) ∧ C[k * 6 + 4]? = some (.int .i64 0) ∧ C[k * 6 + 5]? = some (.int .i64 0)) ∧ (Instr.makeSlice 113 (.int .i64 n) (.int .i64 n)).run Yba.prog w = .ok (.slice (some ⟨w.heap.size, 0, none⟩) n n) (w.alloc (.cells C 44)) := by
  obtain ⟨i, h1, h2, h3, h4⟩ := info_of (t := 44) (z := .agg #[.slice none 0 0, .slice none 0 0, .slice none 0 0, .int .i64 0, .int .i64 0, .int .i64 0]) (s := 6) (b := 96) (by kernel_rfl)
  obtain ⟨C, _, c2, c3⟩ := make_gen Yba.underlying113 h1 h2 h3 n (by omega) (by rw [h4]; omega) (by omega) w
  refine ⟨C, fun k hk => ?_, by simpa using c3⟩
  have h := c2 k (by simpa using hk)
  exact ⟨h 0 (by decide), h 1 (by decide), h 2 (by decide), h 3 (by decide), h 4 (by decide), h 5 (by decide)⟩
/-- Jobs, picks and picked nodes, t jobs written; G: the jobs' block; pick: G + 1; pickedNodes: G + 2. -/
structure Bj (J : JIn) (G t : Nat) (jb bb nb : Nat → Nat) (w : World) : Prop where
  job : ∀ s, s < t → w.cell? ⟨G, s * 5 + 1, none⟩ = some (.pointer (some ⟨jb s, 0, none⟩))
  bids : ∀ s, s < t → w.cell? ⟨G, s * 5 + 4, none⟩ = some (.slice (some ⟨bb s, 0, none⟩) (J.bn s) (J.bn s))
  ex : ∀ s, s < J.n → ∀ j, j < 5 → ∃ u, w.cell? ⟨G, s * 5 + j, none⟩ = some u
  nod : ∀ s, s < t → w.cell? ⟨jb s, 2, none⟩ = some (.int .i64 (if J.core s then 0 else 1))
  bid : ∀ s, s < t → ∀ b : Nat, J.pk s = b → w.cell? ⟨bb s, b * 3, none⟩ = some (.slice (some ⟨nb s, 0, none⟩) (J.dat.m s) (J.dat.m s))
  nds : ∀ s, s < t → ∀ i, i < J.dat.m s → w.cell? ⟨nb s, i, none⟩ = some (.int .i64 (J.dat.nf s i))
  pks : ∀ s, s < J.n → w.cell? ⟨G + 1, s, none⟩ = some (.int .i64 (if s < t then J.pk s else 0))
  pns : ∀ s, s < J.n → w.cell? ⟨G + 2, s, none⟩ = some (if s < t ∧ J.picked s = true then .slice (some ⟨nb s, 0, none⟩) (J.dat.m s) (J.dat.m s) else .slice none 0 0)
  fz : ∀ b o, G ≤ b → b ≤ G + 2 → w.frozen? ⟨b, o, none⟩ = false
  blk : ∀ s, s < t → (G + 3 ≤ jb s ∧ jb s < w.heap.size) ∧ (G + 3 ≤ bb s ∧ bb s < w.heap.size) ∧ (G + 3 ≤ nb s ∧ nb s < w.heap.size)
  sz : G + 3 ≤ w.heap.size
theorem Bj.next {J : JIn} {G t : Nat} {jb bb nb : Nat → Nat} {w w' : World} (h : Bj J G t jb bb nb w) (hb : Below w.heap.size w w') : Bj J G t jb bb nb w' := by
  have hs := hb.size
  have hz := h.sz
  have hc : ∀ b o u, w.cell? ⟨b, o, none⟩ = some u → w'.cell? ⟨b, o, none⟩ = some u := fun b o u hu => (World.cell?_of_block (a := ⟨b, o, none⟩) (hb.block b (lt_of_cell hu))).trans hu
  refine ⟨fun s hs => hc _ _ _ (h.job s hs), fun s hs => hc _ _ _ (h.bids s hs), fun s hs j hj => ?_, fun s hs => hc _ _ _ (h.nod s hs), fun s hs b hb => hc _ _ _ (h.bid s hs b hb), fun s hs i hi => hc _ _ _ (h.nds s hs i hi), fun s hs => hc _ _ _ (h.pks s hs), fun s hs => hc _ _ _ (h.pns s hs), fun b o h1 h2 => ?_, fun s hs => ?_, by omega⟩
  · obtain ⟨u, hu⟩ := h.ex s hs j hj
    exact ⟨u, hc _ _ _ hu⟩
  · rw [World.frozen?_of_block (a := ⟨b, o, none⟩) (hb.block b (by omega))]
    exact h.fz b o h1 h2
  · obtain ⟨⟨a1, a2⟩, ⟨a3, a4⟩, a5, a6⟩ := h.blk s hs
    exact ⟨⟨a1, by omega⟩, ⟨a3, by omega⟩, a5, by omega⟩
/-- The bids of job t, k of them written; BB: their block. -/
structure Bb (J : JIn) (t BB k : Nat) (ndb : Nat → Nat) (M : Nat) (w : World) : Prop where
  ex : ∀ q, q < J.bn t → ∀ j, j < 3 → ∃ u, w.cell? ⟨BB, q * 3 + j, none⟩ = some u
  fz : ∀ o, w.frozen? ⟨BB, o, none⟩ = false
  hd : ∀ q, q < k → w.cell? ⟨BB, q * 3, none⟩ = some (.slice (some ⟨ndb q, 0, none⟩) (J.rn t q) (J.rn t q))
  nd : ∀ q, q < k → ∀ i, i < J.rn t q → w.cell? ⟨ndb q, i, none⟩ = some (.int .i64 (J.nd t q i))
  bb : M ≤ BB ∧ BB < w.heap.size
  ndl : ∀ q, q < k → M ≤ ndb q ∧ ndb q < w.heap.size ∧ ndb q ≠ BB
theorem Bb.next {J : JIn} {t BB k M : Nat} {ndb : Nat → Nat} {w w' : World} (h : Bb J t BB k ndb M w) (hb : Below w.heap.size w w') : Bb J t BB k ndb M w' := by
  have hs := hb.size
  have hc : ∀ b o u, w.cell? ⟨b, o, none⟩ = some u → w'.cell? ⟨b, o, none⟩ = some u := fun b o u hu => (World.cell?_of_block (a := ⟨b, o, none⟩) (hb.block b (lt_of_cell hu))).trans hu
  refine ⟨fun q hq j hj => ?_, fun o => ?_, fun q hq => hc _ _ _ (h.hd q hq), fun q hq i hi => hc _ _ _ (h.nd q hq i hi), ⟨h.bb.1, by have := h.bb.2; omega⟩, fun q hq => ⟨(h.ndl q hq).1, by have := (h.ndl q hq).2.1; omega, (h.ndl q hq).2.2⟩⟩
  · obtain ⟨u, hu⟩ := h.ex q hq j hj
    exact ⟨u, hc _ _ _ hu⟩
  · rw [World.frozen?_of_block (a := ⟨BB, o, none⟩) (hb.block BB h.bb.2)]
    exact h.fz o
/-- bids[k] = bid{nodes: nd}. -/
theorem Bb.put {J : JIn} {t BB k M N : Nat} {ndb : Nat → Nat} {w : World} (h : Bb J t BB k ndb M w) (hk : k < J.bn t) (hN : M ≤ N ∧ N < w.heap.size ∧ N ≠ BB) (hnd : ∀ i, i < J.rn t k → w.cell? ⟨N, i, none⟩ = some (.int .i64 (J.nd t k i))) :
    Bb J t BB (k + 1) (upd ndb k N) M (w.setCells BB (k * 3) [.slice (some ⟨N, 0, none⟩) (J.rn t k) (J.rn t k), .int .i64 0, .float .f64 0]) := by
  generalize hvs : ([.slice (some ⟨N, 0, none⟩) (J.rn t k) (J.rn t k), .int .i64 0, .float .f64 0] : List Value) = vs
  have hl : vs.length = 3 := by rw [← hvs]; rfl
  have hne : ∀ b o, b ≠ BB → (w.setCells BB (k * 3) vs).cell? ⟨b, o, none⟩ = w.cell? ⟨b, o, none⟩ := fun b o hb => World.cell?_of_block (a := ⟨b, o, none⟩) (heap_setCells _ _ _ _ _ hb)
  have hsz : (w.setCells BB (k * 3) vs).heap.size = w.heap.size := size_setCells _ _ _ _
  have hin := World.cell?_setCells_in BB vs (k * 3) w (fun j hj => by
    obtain ⟨u, hu⟩ := h.ex k hk j (by omega)
    rw [hu]; rfl)
  have hout : ∀ q j, q ≠ k → j < 3 → (w.setCells BB (k * 3) vs).cell? ⟨BB, q * 3 + j, none⟩ = w.cell? ⟨BB, q * 3 + j, none⟩ := fun q j hq hj => World.cell?_setCells_out BB _ _ _ ⟨BB, q * 3 + j, none⟩ (fun _ _ => by show q * 3 + j < _ ∨ _ ≤ q * 3 + j; omega)
  refine ⟨fun q hq j hj => ?_, fun o => (frz_setCells _ _ _ _ _).trans (h.fz o), fun q hq => ?_, fun q hq i hi => ?_, ⟨h.bb.1, by rw [hsz]; exact h.bb.2⟩, fun q hq => ?_⟩
  · by_cases e : q = k
    · subst e; exact ⟨_, hin j (by omega)⟩
    · rw [hout q j e hj]; exact h.ex q hq j hj
  · by_cases e : q = k
    · subst e
      rw [upd_eq]
      have := hin 0 (by omega)
      subst hvs
      exact this
    · rw [upd_ne _ _ e]
      have := hout q 0 e (by decide)
      rw [show (⟨BB, q * 3, none⟩ : Addr) = ⟨BB, q * 3 + 0, none⟩ from rfl, this]
      exact h.hd q (by omega)
  · by_cases e : q = k
    · subst e
      rw [upd_eq, hne _ _ hN.2.2]; exact hnd i hi
    · rw [upd_ne _ _ e, hne _ _ (h.ndl q (by omega)).2.2]; exact h.nd q (by omega) i hi
  · by_cases e : q = k
    · subst e; rw [upd_eq, hsz]; exact hN
    · rw [upd_ne _ _ e, hsz]; exact h.ndl q (by omega)
end Go.Proofs.Ybulkbfpk
