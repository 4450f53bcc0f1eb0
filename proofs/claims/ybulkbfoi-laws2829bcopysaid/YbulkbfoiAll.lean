import Derived.Test.YbulkbfoiAft
namespace Go.Proofs.Ybulkbfoi
open Go.RowKit

theorem below_set_both {B : Nat} {w w' : World} (h : Below B w w') (a : Addr) (v : Value) : Below B (w.setCell a v) (w'.setCell a v) := by
  refine ⟨h.os, h.tape, h.output, by simpa using h.size, fun k hk => ?_⟩
  simp only [World.setCell, Array.getElem?_modify]
  rw [h.block k hk]
theorem wants_no {ids md : Nat → Int} {n : Nat} {y : Int} (h : ∀ L', IsLast ids n y L' → md L' ≠ 0) : Wants ids md n y false 0 := ⟨fun h => (by cases h), fun _ => h⟩
theorem fid_ne (id : Int) : (fidOf 2 id != id) = true := by
  simp only [fidOf, if_true, IntKind.wrap, IntKind.signed, IntKind.bits]
  simp
  omega

theorem copy_all (TR : Nat) (id : Int) (bv : Value) (len3 : Nat) (ps ds : List Int) (w wy wx : World) (n : Nat) (ids md : Nat → Int) (tid : Nat → Int) (tf fp : Nat → Option Addr) (ms : Nat → Int) (hn : n ≤ 8)
    (hmd : ∀ i, md i = 0 ∨ md i = 1 ∨ md i = 2 ∨ md i = 3) (M : Mem w.heap.size w n ids md ds n tid tf fp ms wy) (hT : wy.cell? ⟨TR, 21, none⟩ = some (.pointer (some ⟨w.heap.size + 1, 0, none⟩))) (hby : Below wy.heap.size wy wx)
    (hps : ps.length = len3) (hbv : wx.ownsRow wy.heap.size 5 1 bv len3 (ps.map (.int .u8))) :
    Calls Yba.prog 10 #[.pointer (some ⟨TR, 0, none⟩), .int .u64 id, bv] wx fun e w' => ∃ want L, e = .returned (.bool want) ∧ Wants ids md n id want L ∧ Aft w n ids md ds fp ms (usOf want L) w' ∧ w'.ownsRow wy.heap.size 5 1 bv len3 ((mixI want L ds ps).map (.int .u8)) := by
  have Mx := M.next hby
  have hTx := (hby.cell (p := ⟨TR, 21, none⟩) (lt_of_cell hT)).trans hT
  obtain ⟨d, hf⟩ := Mx.tab.find hn id
  have hno : (∀ L', IsLast ids n id L' → md L' ≠ 0) → Calls Yba.prog 10 #[.pointer (some ⟨TR, 0, none⟩), .int .u64 id, bv] wx (fun e w' => e = .returned (.bool false) ∧ w' = wx) →
      Calls Yba.prog 10 #[.pointer (some ⟨TR, 0, none⟩), .int .u64 id, bv] wx fun e w' => ∃ want L, e = .returned (.bool want) ∧ Wants ids md n id want L ∧ Aft w n ids md ds fp ms (usOf want L) w' ∧ w'.ownsRow wy.heap.size 5 1 bv len3 ((mixI want L ds ps).map (.int .u8)) := by
    intro h1 h2
    refine h2.mono ?_
    rintro e w' ⟨rfl, rfl⟩
    exact ⟨false, 0, rfl, wants_no h1, Mx.aft, hbv⟩
  by_cases hs : tid ((hsh id + d) % 32) = id
  · by_cases h0 : id = 0
    · have hfr := Mx.tab.free _ (Nat.mod_lt _ (by omega)) (hs.trans h0)
      exact hno (fun L' h => absurd h0 h.2.2.1) (copy_none TR _ id bv wx hTx Mx.psh (get_hit _ _ id tid tf wx d Mx.p0 Mx.p1 Mx.tc Mx.tp hf hs none hfr (.inl rfl)))
    · obtain ⟨L, hL, e1, e2, e3⟩ := Mx.tab.hit h0 hs
      have hLast : IsLast ids n id L := ⟨hL, e1, h0, e2⟩
      by_cases h3 : md L = 3
      · have hfn : fp L = none := (Mx.fpv L hL).2 (by rintro ⟨_, _, h⟩; exact h h3)
        rw [hfn] at e3
        exact hno (fun L' h => by rw [← hLast.uniq h, h3]; decide) (copy_none TR _ id bv wx hTx Mx.psh (get_hit _ _ id tid tf wx d Mx.p0 Mx.p1 Mx.tc Mx.tp hf hs none e3 (.inl rfl)))
      · cases hp : fp L with
        | none => exact absurd ⟨hL, by rw [e1]; exact h0, h3⟩ ((Mx.fpv L hL).1 hp)
        | some a =>
          obtain ⟨b, rfl, hN, hfr⟩ := Mx.fr L hL a hp
          obtain ⟨b', heb, _, hfy⟩ := M.fr L hL _ hp
          cases heb
          rw [hp] at e3
          have hg := get_hit _ _ id tid tf wx d Mx.p0 Mx.p1 Mx.tc Mx.tp hf hs _ e3 (.inr ⟨b, rfl, hfr.sh⟩)
          have c0 := hfr.c0
          have c2 := hfr.c2
          rw [e1] at c0
          by_cases hz : md L = 0
          · have f0 : fidOf (md L) id = id := by rw [hz]; rfl
            have f2 : ldOf (md L) = 0 := by rw [hz]; rfl
            rw [f0] at c0
            rw [f2] at c2
            obtain ⟨db, dcap, cc, g1, g2, g4, g3⟩ := hfr.c1
            rw [← rowOf_length L] at g1
            refine (copy_yes TR (w.heap.size + 1) b wy.heap.size db dcap id bv len3 (ps.map (.int .u8)) (rowOf L ds) _ wx hTx Mx.psh hg c0 c2 hfr.c3 hfr.f3 g1 (lt_of_shape hfy.sh) (by omega) g3 hbv (rowOf_one L ds) rfl).mono ?_
            rintro e w' ⟨rfl, hb, hr⟩
            refine ⟨true, L, rfl, ⟨fun _ => ⟨hLast, hz⟩, fun h => (by cases h)⟩, ?_, ?_⟩
            · refine (M.use hL hp).next ?_
              have hsz : (wy.setCell ⟨b, 3, none⟩ (.int .u32 1)).heap.size = wy.heap.size := by simp
              rw [hsz]
              exact (below_set_both hby _ _).trans hb
            · have : (mixI true L ds ps).map (Value.int .u8) = splice (ps.map (.int .u8)) 0 ((rowOf L ds).take len3) := by
                unfold mixI
                rw [if_pos rfl, map_splice, rowOf_rowI, List.map_take, hps]
              rw [this]
              exact hr
          · refine hno (fun L' h => by rw [← hLast.uniq h]; exact hz) (copy_no TR _ b id bv wx hTx Mx.psh hg (found_no b id _ _ wx c0 c2 ?_))
            rcases hmd L with h | h | h | h
            · exact absurd h hz
            · left; rw [h]; rfl
            · right; rw [h]; exact ⟨rfl, fid_ne id⟩
            · exact absurd h h3
  · refine hno (fun L' h => ?_) (copy_none TR _ id bv wx hTx Mx.psh (get_miss _ _ id tid wx d Mx.p0 Mx.p1 Mx.tc hf hs))
    exact absurd h.2.1 (Mx.tab.miss h.2.2.1 hf hs L' h.1)
end Go.Proofs.Ybulkbfoi
