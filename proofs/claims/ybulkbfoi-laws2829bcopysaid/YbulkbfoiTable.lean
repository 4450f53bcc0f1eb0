import Derived.Test.YbulkbfoiAtomics
import Derived.Below
namespace Go.Proofs.Ybulkbfoi
open Go.RowKit
def hsh (id : Int) : Nat := (IntKind.u64.wrap (id * 11400714819323198485) / 576460752303423488).toNat
theorem hsh_eq (id : Int) : IntKind.u64.wrap (id * 11400714819323198485) / 576460752303423488 = (hsh id : Int) := by
  have : 0 ≤ IntKind.u64.wrap (id * 11400714819323198485) := by simp only [IntKind.wrap, IntKind.signed, IntKind.bits]; simp; omega
  unfold hsh; omega
theorem hsh_lt (id : Int) : hsh id < 32 := by
  have : IntKind.u64.wrap (id * 11400714819323198485) < 18446744073709551616 := by simp only [IntKind.wrap, IntKind.signed, IntKind.bits]; simp; omega
  unfold hsh; omega
theorem next_fin : ∀ n : Fin 32, bits .and .u64 ((n.val : Int) + 1) 31 = (((n.val + 1) % 32 : Nat) : Int) := by decide +kernel
theorem next_idx (n : Nat) (h : n < 32) : bits .and .u64 ((n : Int) + 1) 31 = (((n + 1) % 32 : Nat) : Int) := next_fin ⟨n, h⟩

set_option maxRecDepth 20000 in
set_option maxHeartbeats 400000 in
theorem slot_any (PB TB : Nat) (id : Int) (tid : Nat → Int) (w : World) (d : Nat)
    (p0 : w.cell? ⟨PB, 0, none⟩ = some (.slice (some ⟨TB, 0, none⟩) 32 32)) (p1 : w.cell? ⟨PB, 1, none⟩ = some (.int .i64 5))
    (ht : ∀ i, i < 32 → w.cell? ⟨TB, i * 2, none⟩ = some (.int .u64 (tid i)))
    (hd : d < 32) (hit : tid ((hsh id + d) % 32) = id ∨ tid ((hsh id + d) % 32) = 0) (miss : ∀ e, e < d → tid ((hsh id + e) % 32) ≠ id ∧ tid ((hsh id + e) % 32) ≠ 0) :
    Calls Yba.prog 5 #[.pointer (some ⟨PB, 0, none⟩), .int .u64 id] w fun e w' => e = .returned (.pointer (some ⟨TB, (hsh id + d) % 32 * 2, none⟩)) ∧ w' = w := by
  have hh := hsh_eq id
  have hl := hsh_lt id
  go_enter Yba.func5, Yba.ntmps5
  go_wp2
  go_loopw [6] (fun iv wr => ∃ e : Nat, e ≤ d ∧ iv = .int .u64 (((hsh id + e) % 32 : Nat) : Int) ∧ wr = w) (fun iv _ => d - ((intOf iv).toNat + 32 - hsh id) % 32)
  case atStart => exact ⟨0, by omega, by simp [Nat.mod_eq_of_lt hl], rfl⟩
  case round =>
    obtain ⟨e, he, rfl, rfl⟩ := hrel
    have hlt : (hsh id + e) % 32 < 32 := Nat.mod_lt _ (by omega)
    have hn := next_idx _ hlt
    obtain ⟨ix, hix⟩ : ∃ ix, ix = (hsh id + e) % 32 := ⟨_, rfl⟩
    rw [← hix] at hlt hn ⊢
    have HI : Hid (ix = (hsh id + e) % 32) := hix
    have hx := ht ix hlt
    have HT : Hid ((tid ((hsh id + d) % 32) = id ∨ tid ((hsh id + d) % 32) = 0) ∧ ∀ e, e < d → tid ((hsh id + e) % 32) ≠ id ∧ tid ((hsh id + e) % 32) ≠ 0) := ⟨hit, miss⟩
    clear hix hit miss ht hh
    obtain ⟨x, hxe⟩ : ∃ x, x = tid ix := ⟨_, rfl⟩
    rw [← hxe] at hx
    have HX : Hid (x = tid ix) := hxe
    clear hxe
    have hend : (x = id ∨ x = 0) → (hsh id + d) % 32 = ix := by
      intro hx0
      have : e = d := by
        rcases Nat.lt_or_ge e d with h | h
        · have := HT.out.2 e h
          rw [← HI.out, ← HX.out] at this
          rcases hx0 with h | h <;> simp [h] at this
        · omega
      rw [HI.out, this]
    by_cases hq : (x == id) = true
    · go_wp2_with fail
      refine (load_any _ _ _ _ hx).mono ?_
      rintro e' w' ⟨rfl, rfl⟩
      go_wp2_with fail
      go_ret
      refine ⟨?_, rfl⟩
      rw [hend (.inl (by simpa using hq))]; rfl
    · have hq' : (x == id) = false := by simpa using hq
      by_cases hz : (x == 0) = true
      · go_wp2_with fail
        refine (load_any _ _ _ _ hx).mono ?_
        rintro e' w' ⟨rfl, rfl⟩
        go_wp2_with fail
        go_ret
        refine ⟨?_, rfl⟩
        rw [hend (.inr (by simpa using hz))]; rfl
      · have hz' : (x == 0) = false := by simpa using hz
        have hne : e ≠ d := by
          rintro rfl
          rcases HT.out.1 with h | h
          · rw [← HI.out, ← HX.out] at h; simp [h] at hq
          · rw [← HI.out, ← HX.out] at h; simp [h] at hz
        go_wp2_with fail
        refine (load_any _ _ _ _ hx).mono ?_
        rintro e' w' ⟨rfl, rfl⟩
        go_wp2_with fail
        go_roundw
        case rel => exact ⟨e + 1, by omega, by rw [HI.out]; congr 2; omega, trivial⟩
        case measure => have := HI.out; simp [intOf]; omega
/-- The first slot from the hash of 'id' on that holds 'id' or nothing lies 'd' behind it. -/
def Finds (tid : Nat → Int) (id : Int) (d : Nat) : Prop :=
  d < 32 ∧ (tid ((hsh id + d) % 32) = id ∨ tid ((hsh id + d) % 32) = 0) ∧ ∀ e, e < d → tid ((hsh id + e) % 32) ≠ id ∧ tid ((hsh id + e) % 32) ≠ 0
theorem Finds.uniq {tid : Nat → Int} {id : Int} {d d' : Nat} (h : Finds tid id d) (h' : Finds tid id d') : d = d' := by
  obtain ⟨_, h1, h2⟩ := h
  obtain ⟨_, h1', h2'⟩ := h'
  rcases Nat.lt_trichotomy d d' with hl | hl | hl
  · have := h2' d hl; rcases h1 with h | h <;> simp [h] at this
  · exact hl
  · have := h2 d' hl; rcases h1' with h | h <;> simp [h] at this
theorem finds_of_hit {tid : Nat → Int} {id : Int} : ∀ d, d < 32 → (tid ((hsh id + d) % 32) = id ∨ tid ((hsh id + d) % 32) = 0) → ∃ d', Finds tid id d' := by
  intro d
  induction d using Nat.strongRecOn with
  | ind d ih =>
    intro hd hh
    by_cases hm : ∃ e, e < d ∧ (tid ((hsh id + e) % 32) = id ∨ tid ((hsh id + e) % 32) = 0)
    · obtain ⟨e, he, hx⟩ := hm
      exact ih e he (by omega) hx
    · refine ⟨d, hd, hh, fun e he => ⟨fun h => hm ⟨e, he, .inl h⟩, fun h => hm ⟨e, he, .inr h⟩⟩⟩
theorem finds_of_empty {tid : Nat → Int} (id : Int) {u : Nat} (hu : u < 32) (h0 : tid u = 0) : ∃ d, Finds tid id d := by
  have := hsh_lt id
  refine finds_of_hit ((u + 32 - hsh id) % 32) (by omega) (.inr ?_)
  rw [show (hsh id + (u + 32 - hsh id) % 32) % 32 = u by omega]
  exact h0

def TInv (tid : Nat → Int) : Prop := ∀ u, u < 32 → tid u ≠ 0 → ∃ d, Finds tid (tid u) d ∧ (hsh (tid u) + d) % 32 = u
theorem TInv.uniq {tid : Nat → Int} (h : TInv tid) {u v : Nat} (hu : u < 32) (hv : v < 32) (h0 : tid u ≠ 0) (he : tid u = tid v) : u = v := by
  obtain ⟨d, hf, hd⟩ := h u hu h0
  obtain ⟨d', hf', hd'⟩ := h v hv (he ▸ h0)
  rw [← he] at hf' hd'
  rw [← hd, ← hd', hf.uniq hf']
theorem TInv.found {tid : Nat → Int} (h : TInv tid) {u d : Nat} {y : Int} (hu : u < 32) (h0 : y ≠ 0) (he : tid u = y) (hf : Finds tid y d) : (hsh y + d) % 32 = u := by
  subst he
  obtain ⟨d', hf', hd'⟩ := h u hu h0
  rw [hf.uniq hf']; exact hd'

def upd {α : Type} (f : Nat → α) (p : Nat) (v : α) : Nat → α := fun u => if u = p then v else f u
theorem upd_eq {α : Type} (f : Nat → α) (p : Nat) (v : α) : upd f p v p = v := by simp [upd]
theorem upd_ne {α : Type} (f : Nat → α) {p u : Nat} (v : α) (h : u ≠ p) : upd f p v u = f u := by simp [upd, h]

theorem TInv.insert {tid : Nat → Int} (h : TInv tid) {id : Int} {d : Nat} (hf : Finds tid id d) : TInv (upd tid ((hsh id + d) % 32) id) := by
  by_cases hx : tid ((hsh id + d) % 32) = id
  · have : upd tid ((hsh id + d) % 32) id = tid := by
      funext u; unfold upd; split
      · rename_i hu; rw [hu, hx]
      · rfl
    rw [this]; exact h
  · have hz : tid ((hsh id + d) % 32) = 0 := hf.2.1.resolve_left hx
    have hl := hsh_lt id
    intro u hu hne
    by_cases hup : u = (hsh id + d) % 32
    · rw [hup, upd_eq]
      refine ⟨d, ⟨hf.1, .inl (upd_eq _ _ _), fun e he => ?_⟩, rfl⟩
      have := hf.1
      rw [upd_ne _ _ (by omega)]
      exact hf.2.2 e he
    · rw [upd_ne _ _ hup] at hne ⊢
      obtain ⟨d1, hf1, hd1⟩ := h u hu hne
      refine ⟨d1, ⟨hf1.1, .inl ?_, fun e he => ?_⟩, hd1⟩
      · rw [hd1, upd_ne _ _ hup]
      · have := hf1.2.2 e he
        rw [upd_ne]
        · exact this
        · intro hc; rw [hc] at this; exact this.2 hz

def cnt (tid : Nat → Int) : Nat → Nat
  | 0 => 0
  | k + 1 => cnt tid k + (if tid k = 0 then 0 else 1)
theorem cnt_upd (tid : Nat → Int) (p : Nat) (v : Int) (k : Nat) : cnt (upd tid p v) k ≤ cnt tid k + (if p < k then 1 else 0) := by
  induction k with
  | zero => simp [cnt]
  | succ k ih =>
    simp only [cnt]
    by_cases hk : k = p
    · subst hk
      simp only [Nat.lt_irrefl, if_false] at ih
      rw [if_pos (Nat.lt_succ_self k)]
      split <;> split <;> omega
    · rw [upd_ne _ _ hk]
      split at ih <;> (repeat' split) <;> omega
theorem cnt_full (tid : Nat → Int) (k : Nat) (h : ∀ u, u < k → tid u ≠ 0) : cnt tid k = k := by
  induction k with
  | zero => rfl
  | succ k ih => simp only [cnt]; rw [ih fun u hu => h u (by omega), if_neg (h k (by omega))]
theorem empty_of_cnt {tid : Nat → Int} (h : cnt tid 32 < 32) : ∃ u, u < 32 ∧ tid u = 0 := by
  by_cases hx : ∃ u, u < 32 ∧ tid u = 0
  · exact hx
  · have := cnt_full tid 32 fun u hu h0 => hx ⟨u, hu, h0⟩
    omega
theorem cnt_zero (k : Nat) : cnt (fun _ => 0) k = 0 := by
  induction k with
  | zero => rfl
  | succ k ih => simp [cnt, ih]

/-- THE TABLE behind 'j' pages: each number that it holds came in, and its frame is that of the last page of this number. -/
structure Tab (ids : Nat → Int) (fp : Nat → Option Addr) (j : Nat) (tid : Nat → Int) (tf : Nat → Option Addr) : Prop where
  inv : TInv tid
  held : ∀ u, u < 32 → tid u ≠ 0 → ∃ L, L < j ∧ ids L = tid u ∧ (∀ i, L < i → i < j → ids i ≠ tid u) ∧ tf u = fp L
  all : ∀ i, i < j → ids i ≠ 0 → ∃ u, u < 32 ∧ tid u = ids i
  cnt : cnt tid 32 ≤ j
  free : ∀ u, u < 32 → tid u = 0 → tf u = none
theorem Tab.start (ids : Nat → Int) (fp : Nat → Option Addr) : Tab ids fp 0 (fun _ => 0) (fun _ => none) :=
  ⟨fun u _ h => absurd rfl h, fun u _ h => absurd rfl h, fun i hi => absurd hi (by omega), by rw [cnt_zero]; exact Nat.le_refl _, fun _ _ _ => rfl⟩
theorem Tab.zero {ids : Nat → Int} {fp : Nat → Option Addr} {j : Nat} {tid : Nat → Int} {tf : Nat → Option Addr} (h : Tab ids fp j tid tf) (h0 : ids j = 0) : Tab ids fp (j + 1) tid tf := by
  refine ⟨h.inv, fun u hu hn => ?_, fun i hi hn => ?_, by have := h.cnt; omega, h.free⟩
  · obtain ⟨L, hL, h1, h2, h3⟩ := h.held u hu hn
    refine ⟨L, by omega, h1, fun i hi hj => ?_, h3⟩
    by_cases he : i = j
    · rw [he, h0]; exact fun h => hn h.symm
    · exact h2 i hi (by omega)
  · by_cases he : i = j
    · rw [he] at hn; exact absurd h0 hn
    · exact h.all i (by omega) hn
theorem Tab.put {ids : Nat → Int} {fp : Nat → Option Addr} {j : Nat} {tid : Nat → Int} {tf : Nat → Option Addr} (h : Tab ids fp j tid tf) (h0 : ids j ≠ 0) {d : Nat} (hf : Finds tid (ids j) d) (f : Option Addr) :
    Tab ids (upd fp j f) (j + 1) (upd tid ((hsh (ids j) + d) % 32) (ids j)) (upd tf ((hsh (ids j) + d) % 32) f) := by
  have hp : (hsh (ids j) + d) % 32 < 32 := Nat.mod_lt _ (by omega)
  refine ⟨h.inv.insert hf, fun u hu hn => ?_, fun i hi hn => ?_, ?_, fun u hu hz => ?_⟩
  · by_cases hup : u = (hsh (ids j) + d) % 32
    · rw [hup, upd_eq, upd_eq]
      exact ⟨j, by omega, rfl, fun i hi hj => by omega, (upd_eq _ _ _).symm⟩
    · rw [upd_ne _ _ hup] at hn
      rw [upd_ne _ _ hup, upd_ne _ _ hup]
      obtain ⟨L, hL, h1, h2, h3⟩ := h.held u hu hn
      refine ⟨L, by omega, h1, fun i hi hj => ?_, by rw [upd_ne _ _ (by omega)]; exact h3⟩
      by_cases he : i = j
      · rw [he]; intro hc
        exact hup (h.inv.found hu h0 hc.symm hf).symm
      · exact h2 i hi (by omega)
  · by_cases he : ids i = ids j
    · exact ⟨_, hp, by rw [upd_eq, he]⟩
    · have hij : i ≠ j := fun h => he (by rw [h])
      obtain ⟨u, hu, hx⟩ := h.all i (by omega) hn
      refine ⟨u, hu, ?_⟩
      rw [upd_ne, hx]
      rintro rfl
      rcases hf.2.1 with h1 | h1
      · exact he (by rw [← hx, h1])
      · exact hn (by rw [← hx, h1])
  · have := cnt_upd tid ((hsh (ids j) + d) % 32) (ids j) 32
    have h2 := h.cnt
    split at this <;> omega
  · by_cases hup : u = (hsh (ids j) + d) % 32
    · rw [hup, upd_eq] at hz; exact absurd hz h0
    · rw [upd_ne _ _ hup] at hz ⊢; exact h.free u hu hz
theorem Tab.find {ids : Nat → Int} {fp : Nat → Option Addr} {j : Nat} {tid : Nat → Int} {tf : Nat → Option Addr} (h : Tab ids fp j tid tf) (hj : j ≤ 8) (y : Int) : ∃ d, Finds tid y d := by
  obtain ⟨u, hu, hz⟩ := empty_of_cnt (tid := tid) (by have := h.cnt; omega)
  exact finds_of_empty y hu hz
/-- A number that the table does not hold is in none of the pages. -/
theorem Tab.miss {ids : Nat → Int} {fp : Nat → Option Addr} {j : Nat} {tid : Nat → Int} {tf : Nat → Option Addr} (h : Tab ids fp j tid tf) {y : Int} (hy : y ≠ 0) {d : Nat} (hf : Finds tid y d) (hn : tid ((hsh y + d) % 32) ≠ y) : ∀ i, i < j → ids i ≠ y := by
  intro i hi he
  obtain ⟨u, hu, hx⟩ := h.all i hi (by rw [he]; exact hy)
  rw [he] at hx
  have := h.inv.found hu hy hx hf
  rw [this] at hn
  exact hn hx
theorem Tab.hit {ids : Nat → Int} {fp : Nat → Option Addr} {j : Nat} {tid : Nat → Int} {tf : Nat → Option Addr} (h : Tab ids fp j tid tf) {y : Int} (hy : y ≠ 0) {d : Nat} (hn : tid ((hsh y + d) % 32) = y) :
    ∃ L, L < j ∧ ids L = y ∧ (∀ i, L < i → i < j → ids i ≠ y) ∧ tf ((hsh y + d) % 32) = fp L := by
  have := h.held ((hsh y + d) % 32) (Nat.mod_lt _ (by omega)) (by rw [hn]; exact hy)
  rw [hn] at this
  exact this
end Go.Proofs.Ybulkbfoi
