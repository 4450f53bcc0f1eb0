import Derived.Test.YbulkbfoiBytes
namespace Go.Proofs.Ybulkbfoi
open Go.RowKit

theorem shape_of_block {w w' : World} {b : Nat} (h : w'.heap[b]? = w.heap[b]?) : w'.shape? b = w.shape? b := by simp [World.shape?, h]
theorem shape_setCell (w : World) (a : Addr) (v : Value) (b : Nat) : (w.setCell a v).shape? b = w.shape? b := by
  unfold World.shape? World.setCell
  simp only [Array.getElem?_modify]
  by_cases h : a.block = b
  · rw [if_pos h]
    cases hh : w.heap[b]? with
    | none => rfl
    | some o => cases o <;> simp <;> split <;> simp
  · rw [if_neg h]
theorem lt_of_shape {w : World} {b : Nat} {x : TypeId × Nat} (h : w.shape? b = some x) : b < w.heap.size := by
  rcases Nat.lt_or_ge b w.heap.size with hl | hl
  · exact hl
  · simp [World.shape?, Array.getElem?_eq_none hl] at h
theorem lt_of_cell {w : World} {b o : Nat} {v : Value} (h : w.cell? ⟨b, o, none⟩ = some v) : b < w.heap.size := World.block_lt_of_cell? w ⟨b, o, none⟩ h
theorem cell_set {w : World} {b o c p : Nat} {u v : Value} (h : w.cell? ⟨b, o, none⟩ = some u) : (w.setCell ⟨b, o, none⟩ v).cell? ⟨c, p, none⟩ = if c = b ∧ p = o then some v else w.cell? ⟨c, p, none⟩ := by
  split
  · rename_i hh; obtain ⟨rfl, rfl⟩ := hh; exact World.cell?_setCell_same _ _ _ h
  · rename_i hh; exact World.cell?_setCell_other _ _ _ _ (by intro he; injection he with h1 h2; exact hh ⟨h1.symm, h2.symm⟩)
theorem cell_set_ne {w : World} {b o c p : Nat} {v : Value} (h : ¬ (c = b ∧ p = o)) : (w.setCell ⟨b, o, none⟩ v).cell? ⟨c, p, none⟩ = w.cell? ⟨c, p, none⟩ :=
  World.cell?_setCell_other _ _ _ _ (by intro he; injection he with h1 h2; exact h ⟨h1.symm, h2.symm⟩)
theorem frozen_set (w : World) (a c : Addr) (v : Value) : (w.setCell a v).frozen? c = w.frozen? c := by
  unfold World.frozen? World.setCell
  simp only [Array.getElem?_modify]
  by_cases h : a.block = c.block
  · rw [if_pos h]
    cases hh : w.heap[c.block]? with
    | none => rfl
    | some o => cases o <;> rfl
  · rw [if_neg h]

def fidOf (m id : Int) : Int := if m = 2 then IntKind.u64.wrap (id + 1) else id
def ldOf (m : Int) : Int := if m = 1 then 1 else 0
def rowOf (i : Nat) (ds : List Int) : List Value := .int .u8 (i + 1) :: ds.map (.int .u8)
theorem rowOf_length (i : Nat) (ds : List Int) : (rowOf i ds).length = ds.length + 1 := by simp [rowOf]
theorem rowOf_one (i : Nat) (ds : List Int) : ∀ v ∈ rowOf i ds, v.oneCell' = true := by
  intro v hv
  rcases List.mem_cons.1 hv with rfl | hv
  · rfl
  · exact bytes_one ds v hv

/-- The frame of page 'i' lies in block 'b'. -/
structure Fr (w : World) (ids md : Nat → Int) (ds : List Int) (b i : Nat) (us : Int) : Prop where
  sh : w.shape? b = some (43, 39)
  c0 : w.cell? ⟨b, 0, none⟩ = some (.int .u64 (fidOf (md i) (ids i)))
  c1 : ∃ db cap c, w.cell? ⟨b, 1, none⟩ = some (.slice (some ⟨db, 0, none⟩) (ds.length + 1) cap) ∧ w.shape? db = some (5, c) ∧ b < db ∧ ∀ j v, (rowOf i ds)[j]? = some v → w.cell? ⟨db, j, none⟩ = some v
  c2 : w.cell? ⟨b, 2, none⟩ = some (.int .u32 (ldOf (md i)))
  c3 : w.cell? ⟨b, 3, none⟩ = some (.int .u32 us)
  f3 : w.frozen? ⟨b, 3, none⟩ = false
theorem Fr.next {w w' : World} {ids md : Nat → Int} {ds : List Int} {b i : Nat} {us : Int} (h : Fr w ids md ds b i us) (hb : Below w.heap.size w w') : Fr w' ids md ds b i us := by
  have hl := lt_of_shape h.sh
  have c : ∀ b o, b < w.heap.size → w'.cell? ⟨b, o, none⟩ = w.cell? ⟨b, o, none⟩ := fun b o hh => hb.cell (p := ⟨b, o, none⟩) hh
  obtain ⟨db, cap, cc, e1, e2, e4, e3⟩ := h.c1
  have hd := lt_of_shape e2
  exact ⟨(shape_of_block (hb.block _ hl)).trans h.sh, (c _ _ hl).trans h.c0, ⟨db, cap, cc, (c _ _ hl).trans e1, (shape_of_block (hb.block _ hd)).trans e2, e4, fun j v hj => (c _ _ hd).trans (e3 j v hj)⟩, (c _ _ hl).trans h.c2, (c _ _ hl).trans h.c3, (hb.frozen (p := ⟨b, 3, none⟩) hl).trans h.f3⟩
/-- A store into a block that is neither the frame's nor a row of bytes. -/
theorem Fr.set {w : World} {ids md : Nat → Int} {ds : List Int} {b i : Nat} {us : Int} (h : Fr w ids md ds b i us) {g o : Nat} (v : Value) (hg : g < b ∨ g ≠ b ∧ ∀ c, w.shape? g ≠ some (5, c)) : Fr (w.setCell ⟨g, o, none⟩ v) ids md ds b i us := by
  have c : ∀ p, (w.setCell ⟨g, o, none⟩ v).cell? ⟨b, p, none⟩ = w.cell? ⟨b, p, none⟩ := fun p => cell_set_ne (by omega)
  obtain ⟨db, cap, cc, e1, e2, e4, e3⟩ := h.c1
  have hd : db ≠ g := by
    rintro rfl
    rcases hg with hg | ⟨_, h5⟩
    · omega
    · exact h5 _ e2
  exact ⟨(shape_setCell _ _ _ _).trans h.sh, (c _).trans h.c0, ⟨db, cap, cc, (c _).trans e1, (shape_setCell _ _ _ _).trans e2, e4, fun j v hj => (cell_set_ne (by omega)).trans (e3 j v hj)⟩, (c _).trans h.c2, (c _).trans h.c3, (frozen_set _ _ _ _).trans h.f3⟩
/-- Marked as used. -/
theorem Fr.use {w : World} {ids md : Nat → Int} {ds : List Int} {b i : Nat} {us : Int} (h : Fr w ids md ds b i us) : Fr (w.setCell ⟨b, 3, none⟩ (.int .u32 1)) ids md ds b i 1 := by
  obtain ⟨db, cap, cc, e1, e2, e4, e3⟩ := h.c1
  have hd : db ≠ b := by rintro rfl; rw [h.sh] at e2; simp at e2
  exact ⟨(shape_setCell _ _ _ _).trans h.sh, (cell_set_ne (by omega)).trans h.c0, ⟨db, cap, cc, (cell_set_ne (by omega)).trans e1, (shape_setCell _ _ _ _).trans e2, e4, fun j v hj => (cell_set_ne (by omega)).trans (e3 j v hj)⟩, (cell_set_ne (by omega)).trans h.c2, World.cell?_setCell_same _ _ _ h.c3, (frozen_set _ _ _ _).trans h.f3⟩

/-- THE MEMORY behind 'j' pages: blocks N: the slots; N + 1: the table; N + 2: the frames; N + 3: the modes. -/
structure Mem (N : Nat) (w0 : World) (n : Nat) (ids md : Nat → Int) (ds : List Int) (j : Nat) (tid : Nat → Int) (tf fp : Nat → Option Addr) (ms : Nat → Int) (w : World) : Prop where
  bel : Below N w0 w
  sz : N + 4 ≤ w.heap.size
  psh : w.shape? (N + 1) = some (29, 68)
  p0 : w.cell? ⟨N + 1, 0, none⟩ = some (.slice (some ⟨N, 0, none⟩) 32 32)
  p1 : w.cell? ⟨N + 1, 1, none⟩ = some (.int .i64 5)
  tsh : w.shape? N = some (55, 64)
  tc : ∀ i, i < 32 → w.cell? ⟨N, i * 2, none⟩ = some (.int .u64 (tid i))
  tp : ∀ i, i < 32 → w.cell? ⟨N, i * 2 + 1, none⟩ = some (.pointer (tf i))
  tz : ∀ o, w.frozen? ⟨N, o, none⟩ = false
  fsh : w.shape? (N + 2) = some (31, n)
  fc : ∀ i, i < n → w.cell? ⟨N + 2, i, none⟩ = some (.pointer (fp i))
  fz : ∀ o, w.frozen? ⟨N + 2, o, none⟩ = false
  mc : ∀ i, i < n → w.cell? ⟨N + 3, i, none⟩ = some (.int .u8 (ms i))
  mz : ∀ o, w.frozen? ⟨N + 3, o, none⟩ = false
  fr : ∀ i, i < n → ∀ a, fp i = some a → ∃ b, a = ⟨b, 0, none⟩ ∧ N + 4 ≤ b ∧ Fr w ids md ds b i 0
  dist : ∀ i i', i < n → i' < n → fp i = fp i' → fp i ≠ none → i = i'
  tab : Tab ids fp j tid tf
  msv : ∀ i, i < j → ids i ≠ 0 → ms i = md i
  fpv : ∀ i, i < n → (fp i = none ↔ ¬ (i < j ∧ ids i ≠ 0 ∧ md i ≠ 3))

theorem Mem.next {N : Nat} {w0 : World} {n : Nat} {ids md : Nat → Int} {ds : List Int} {j : Nat} {tid : Nat → Int} {tf fp : Nat → Option Addr} {ms : Nat → Int} {w w' : World} (h : Mem N w0 n ids md ds j tid tf fp ms w) (hb : Below w.heap.size w w') : Mem N w0 n ids md ds j tid tf fp ms w' := by
  have hs := h.sz
  have c : ∀ b o, b < N + 4 → w'.cell? ⟨b, o, none⟩ = w.cell? ⟨b, o, none⟩ := fun b o hh => hb.cell (p := ⟨b, o, none⟩) (show b < _ by omega)
  have z : ∀ b o, b < N + 4 → w'.frozen? ⟨b, o, none⟩ = w.frozen? ⟨b, o, none⟩ := fun b o hh => hb.frozen (p := ⟨b, o, none⟩) (show b < _ by omega)
  exact ⟨h.bel.trans (hb.mono (by omega)), Nat.le_trans hs hb.size, (shape_of_block (hb.block _ (by omega))).trans h.psh, (c _ _ (by omega)).trans h.p0, (c _ _ (by omega)).trans h.p1, (shape_of_block (hb.block _ (by omega))).trans h.tsh,
    fun i hi => (c _ _ (by omega)).trans (h.tc i hi), fun i hi => (c _ _ (by omega)).trans (h.tp i hi), fun o => (z _ _ (by omega)).trans (h.tz o), (shape_of_block (hb.block _ (by omega))).trans h.fsh,
    fun i hi => (c _ _ (by omega)).trans (h.fc i hi), fun o => (z _ _ (by omega)).trans (h.fz o),
    fun i hi => (c _ _ (by omega)).trans (h.mc i hi), fun o => (z _ _ (by omega)).trans (h.mz o),
    fun i hi a ha => by obtain ⟨b, e, hN, hf⟩ := h.fr i hi a ha; exact ⟨b, e, hN, hf.next hb⟩, h.dist, h.tab, h.msv, h.fpv⟩
theorem Mem.zero {N : Nat} {w0 : World} {n : Nat} {ids md : Nat → Int} {ds : List Int} {j : Nat} {tid : Nat → Int} {tf fp : Nat → Option Addr} {ms : Nat → Int} {w : World} (h : Mem N w0 n ids md ds j tid tf fp ms w) (h0 : ids j = 0) : Mem N w0 n ids md ds (j + 1) tid tf fp ms w :=
  { h with
    tab := h.tab.zero h0
    msv := fun i hi hn => h.msv i (by rcases Nat.lt_succ_iff_lt_or_eq.1 hi with h' | rfl; exact h'; exact absurd h0 hn) hn
    fpv := fun i hi => (h.fpv i hi).trans (by
      constructor
      · rintro hc ⟨h1, h2, h3⟩
        exact hc ⟨by rcases Nat.lt_succ_iff_lt_or_eq.1 h1 with h' | rfl; exact h'; exact absurd h0 h2, h2, h3⟩
      · rintro hc ⟨h1, h2, h3⟩
        exact hc ⟨by omega, h2, h3⟩) }

theorem Mem.setms {N : Nat} {w0 : World} {n : Nat} {ids md : Nat → Int} {ds : List Int} {j : Nat} {tid : Nat → Int} {tf fp : Nat → Option Addr} {ms : Nat → Int} {w : World} (hN : N = w0.heap.size) (h : Mem N w0 n ids md ds j tid tf fp ms w) (hj : j < n) (m : Int) : Mem N w0 n ids md ds j tid tf fp (upd ms j m) (w.setCell ⟨N + 3, j, none⟩ (.int .u8 m)) := by
  have hs := h.sz
  have c : ∀ b o, b ≠ N + 3 → (w.setCell ⟨N + 3, j, none⟩ (.int .u8 m)).cell? ⟨b, o, none⟩ = w.cell? ⟨b, o, none⟩ := fun b o hh => cell_set_ne (by omega)
  have z : ∀ b o, (w.setCell ⟨N + 3, j, none⟩ (.int .u8 m)).frozen? ⟨b, o, none⟩ = w.frozen? ⟨b, o, none⟩ := fun b o => frozen_set _ _ _ _
  exact ⟨h.bel.setCell (show N ≤ N + 3 by omega) _, by simpa using hs, (shape_setCell _ _ _ _).trans h.psh, (c _ _ (by omega)).trans h.p0, (c _ _ (by omega)).trans h.p1, (shape_setCell _ _ _ _).trans h.tsh,
    fun i hi => (c _ _ (by omega)).trans (h.tc i hi), fun i hi => (c _ _ (by omega)).trans (h.tp i hi), fun o => (z _ _).trans (h.tz o), (shape_setCell _ _ _ _).trans h.fsh,
    fun i hi => (c _ _ (by omega)).trans (h.fc i hi), fun o => (z _ _).trans (h.fz o),
    fun i hi => by
      rw [cell_set (h.mc j hj)]
      unfold upd
      by_cases he : i = j
      · rw [if_pos ⟨rfl, he⟩, if_pos he]
      · rw [if_neg (by omega), if_neg he]; exact h.mc i hi,
    fun o => (z _ _).trans (h.mz o),
    fun i hi a ha => by obtain ⟨b, e, hN, hf⟩ := h.fr i hi a ha; exact ⟨b, e, hN, hf.set _ (.inl (by omega))⟩, h.dist, h.tab,
    fun i hi hn => by rw [upd_ne _ _ (by omega)]; exact h.msv i hi hn, h.fpv⟩

/-- The two stores into the slot, and the one into the row of frames. -/
def tabWorld (N s : Nat) (id : Int) (p : Option Addr) (w : World) : World := (w.setCell ⟨N, s * 2, none⟩ (.int .u64 id)).setCell ⟨N, s * 2 + 1, none⟩ (.pointer p)
theorem Mem.put {N : Nat} {w0 : World} {n : Nat} {ids md : Nat → Int} {ds : List Int} {j : Nat} {tid : Nat → Int} {tf fp : Nat → Option Addr} {ms : Nat → Int} {w : World} (h : Mem N w0 n ids md ds j tid tf fp ms w) (hj : j < n) (h0 : ids j ≠ 0) (hm : ms j = md j) {d : Nat} (hf : Finds tid (ids j) d) (p : Option Addr) (w2 : World)
    (hw2 : w2 = tabWorld N ((hsh (ids j) + d) % 32) (ids j) p w ∧ p = none ∧ md j = 3 ∨ w2 = (tabWorld N ((hsh (ids j) + d) % 32) (ids j) p w).setCell ⟨N + 2, j, none⟩ (.pointer p) ∧ md j ≠ 3 ∧ ∃ b, p = some ⟨b, 0, none⟩ ∧ N + 4 ≤ b ∧ Fr w ids md ds b j 0 ∧ ∀ i, i < n → fp i ≠ p) :
    Mem N w0 n ids md ds (j + 1) (upd tid ((hsh (ids j) + d) % 32) (ids j)) (upd tf ((hsh (ids j) + d) % 32) p) (upd fp j p) ms w2 := by
  have hs := h.sz
  have hp : (hsh (ids j) + d) % 32 < 32 := Nat.mod_lt _ (by omega)
  obtain ⟨s, hse⟩ : ∃ s, s = (hsh (ids j) + d) % 32 := ⟨_, rfl⟩
  have htab := h.tab.put h0 hf p
  rw [← hse] at hw2 hp htab ⊢
  have hold : fp j = none := (h.fpv j hj).2 (by omega)
  have hc1 : ∀ c q, (tabWorld N s (ids j) p w).cell? ⟨c, q, none⟩ = if c = N ∧ q = s * 2 + 1 then some (.pointer p) else if c = N ∧ q = s * 2 then some (.int .u64 (ids j)) else w.cell? ⟨c, q, none⟩ := by
    intro c q
    unfold tabWorld
    rw [cell_set (u := .pointer (tf s)) ((cell_set_ne (by omega)).trans (h.tp s hp)), cell_set (h.tc s hp)]
  have hz1 : ∀ a, (tabWorld N s (ids j) p w).frozen? a = w.frozen? a := fun a => (frozen_set _ _ _ _).trans (frozen_set _ _ _ _)
  have hs1 : ∀ b, (tabWorld N s (ids j) p w).shape? b = w.shape? b := fun b => (shape_setCell _ _ _ _).trans (shape_setCell _ _ _ _)
  have hbel1 : Below N w0 (tabWorld N s (ids j) p w) := (h.bel.setCell (Nat.le_refl N) _).setCell (Nat.le_refl N) _
  have hfr1 : ∀ b i, N + 4 ≤ b → Fr w ids md ds b i 0 → Fr (tabWorld N s (ids j) p w) ids md ds b i 0 := fun b i hb hf => (hf.set _ (.inl (by omega))).set _ (.inl (by omega))
  have hsz1 : N + 4 ≤ (tabWorld N s (ids j) p w).heap.size := by unfold tabWorld; simpa using hs
  have hfc1 : ∀ i, i < n → (tabWorld N s (ids j) p w).cell? ⟨N + 2, i, none⟩ = some (.pointer (fp i)) := fun i hi => by rw [hc1, if_neg (by omega), if_neg (by omega)]; exact h.fc i hi
  have key : (∀ c q, c ≠ N + 2 → w2.cell? ⟨c, q, none⟩ = (tabWorld N s (ids j) p w).cell? ⟨c, q, none⟩) ∧ (∀ a, w2.frozen? a = w.frozen? a) ∧ (∀ b, w2.shape? b = w.shape? b) ∧ Below N w0 w2 ∧ N + 4 ≤ w2.heap.size ∧
      (∀ i, i < n → w2.cell? ⟨N + 2, i, none⟩ = some (.pointer (upd fp j p i))) ∧ (∀ b i, N + 4 ≤ b → Fr w ids md ds b i 0 → Fr w2 ids md ds b i 0) ∧
      (∀ a, p = some a → ∃ b, a = ⟨b, 0, none⟩ ∧ N + 4 ≤ b ∧ Fr w ids md ds b j 0) ∧ (p ≠ none → ∀ i, i < n → fp i ≠ p) ∧ (p = none ↔ md j = 3) := by
    rcases hw2 with ⟨rfl, rfl, hm3⟩ | ⟨rfl, hm3, b, rfl, hb, hfb, hne⟩
    · refine ⟨fun _ _ _ => rfl, hz1, hs1, hbel1, hsz1, fun i hi => ?_, hfr1, fun a ha => (by cases ha), fun hc => absurd rfl hc, by simp [hm3]⟩
      rw [hfc1 i hi]; unfold upd; split
      · rename_i he; rw [he, hold]
      · rfl
    · refine ⟨fun c q hc => cell_set_ne (by omega), fun a => (frozen_set _ _ _ _).trans (hz1 a), fun b => (shape_setCell _ _ _ _).trans (hs1 b), hbel1.setCell (show N ≤ N + 2 by omega) _, by simpa using hsz1, fun i hi => ?_,
        fun b i hb hf => (hfr1 b i hb hf).set _ (.inl (by omega)), fun a ha => ⟨b, by cases ha; rfl, hb, hfb⟩, fun _ => hne, by simp [hm3]⟩
      rw [cell_set (hfc1 j hj)]
      unfold upd
      by_cases he : i = j
      · rw [if_pos ⟨rfl, he⟩, if_pos he]
      · rw [if_neg (by omega), if_neg he]; exact hfc1 i hi
  obtain ⟨kc, kz, ks, kb, ksz, kf, kfr, kp, kne, kn⟩ := key
  have kc' : ∀ c q, c ≠ N + 2 → c ≠ N → w2.cell? ⟨c, q, none⟩ = w.cell? ⟨c, q, none⟩ := fun c q h1 h2 => (kc c q h1).trans (by rw [hc1, if_neg (by omega), if_neg (by omega)])
  refine ⟨kb, ksz, (ks _).trans h.psh, (kc' _ _ (by omega) (by omega)).trans h.p0, (kc' _ _ (by omega) (by omega)).trans h.p1, (ks _).trans h.tsh, fun i hi => ?_, fun i hi => ?_, fun o => (kz _).trans (h.tz o), (ks _).trans h.fsh, kf, fun o => (kz _).trans (h.fz o),
    fun i hi => (kc' _ _ (by omega) (by omega)).trans (h.mc i hi), fun o => (kz _).trans (h.mz o), fun i hi a ha => ?_, fun i i' hi hi' he hn => ?_, htab, fun i hi hn => ?_, fun i hi => ?_⟩
  · rw [kc _ _ (by omega), hc1, if_neg (by omega)]
    unfold upd
    by_cases he : i = s
    · rw [if_pos ⟨rfl, by omega⟩, if_pos he]
    · rw [if_neg (by omega), if_neg he]; exact h.tc i hi
  · rw [kc _ _ (by omega), hc1]
    unfold upd
    by_cases he : i = s
    · rw [if_pos ⟨rfl, by omega⟩, if_pos he]
    · rw [if_neg (by omega), if_neg (by omega), if_neg he]; exact h.tp i hi
  · by_cases he : i = j
    · rw [he, upd_eq] at ha
      rw [he]
      obtain ⟨b, e1, e2, e3⟩ := kp a ha
      exact ⟨b, e1, e2, kfr b j e2 e3⟩
    · rw [upd_ne _ _ he] at ha
      obtain ⟨b, e1, e2, e3⟩ := h.fr i hi a ha
      exact ⟨b, e1, e2, kfr b i e2 e3⟩
  · by_cases h1 : i = j
    · by_cases h2 : i' = j
      · rw [h1, h2]
      · rw [h1, upd_eq] at he hn
        rw [upd_ne _ _ h2] at he
        exact absurd he.symm (kne hn i' hi')
    · by_cases h2 : i' = j
      · rw [h2, upd_eq, upd_ne _ _ h1] at he
        rw [upd_ne _ _ h1, he] at hn
        exact absurd he (kne hn i hi)
      · rw [upd_ne _ _ h1, upd_ne _ _ h2] at he
        rw [upd_ne _ _ h1] at hn
        exact h.dist i i' hi hi' he hn
  · by_cases he : i = j
    · rw [he, hm]
    · exact h.msv i (by omega) hn
  · by_cases he : i = j
    · rw [he, upd_eq]
      constructor
      · rintro hp ⟨_, _, h3⟩; exact h3 (kn.1 hp)
      · intro hc; exact kn.2 (Classical.byContradiction fun h3 => hc ⟨by omega, h0, h3⟩)
    · rw [upd_ne _ _ he, h.fpv i hi]
      constructor
      · rintro hc ⟨h1, h2, h3⟩; exact hc ⟨by omega, h2, h3⟩
      · rintro hc ⟨h1, h2, h3⟩; exact hc ⟨by omega, h2, h3⟩
end Go.Proofs.Ybulkbfoi
