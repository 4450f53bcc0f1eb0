/-
  The two laws' own walks, and what the drawn struct reads as.
-/
import Derived.Test.YbulkbfmeARun
import Derived.ProofKit
import Derived.OpenShut
import Derived.ChangeOld
import Derived.Lib.SmallJoins
namespace Go.Proofs.Ybulkbfme
open Go.ChangeShapes Go.WideShapes Go.ChangeAt Go.RowKit

set_option maxRecDepth 20000 in
set_option maxHeartbeats 400000 in
theorem nil_any (ds dl : Bool) (or nr i tO tN lO lN pO pN kn ls ch rel : Int) (w : World) (h1 : 0 ≤ or) (h2 : 0 ≤ nr) (h3 : -9223372036854775808 ≤ rel) (h4 : rel ≤ 9223372036854775807) :
    Calls Yba.prog 4 #[.agg #[.int .u8 or, .int .u8 nr, .int .u64 i, .int .u64 tO, .int .u64 tN, .int .u64 lO, .int .u64 lN, .int .u64 pO, .int .u64 pN, .int .u64 kn, .int .u64 ls, .int .u64 ch, .int .i64 rel], .bool ds, .bool dl] w
      fun e w' => e = .returned (.bool true) ∧ Below w.heap.size w w' := by
  go_enter Yba.func4, Yba.ntmps4
  go_wp2_with fail
  refine (run_any ds dl or nr i tO tN lO lN pO pN kn ls ch rel _ h1 h2 h3 h4).mono ?_
  rintro e w1 ⟨rfl, hb⟩
  have hb' : Below w.heap.size w w1 := ((Below.refl _ w).alloc (Nat.le_refl _) _).trans (hb.mono (by simp))
  clear hb
  go_wp2_with fail
  go_ret
  exact ⟨rfl, hb'⟩

set_option maxRecDepth 20000 in
set_option maxHeartbeats 400000 in
theorem exact_any (or nr i tO tN lO lN pO pN kn ls ch rel : Int) (w : World) (h1 : 0 ≤ or) (h2 : 0 ≤ nr) (h3 : -9223372036854775808 ≤ rel) (h4 : rel ≤ 9223372036854775807) :
    Calls Yba.prog 3 #[.agg #[.int .u8 or, .int .u8 nr, .int .u64 i, .int .u64 tO, .int .u64 tN, .int .u64 lO, .int .u64 lN, .int .u64 pO, .int .u64 pN, .int .u64 kn, .int .u64 ls, .int .u64 ch, .int .i64 rel]] w
      fun e w' => e = .returned (.bool true) ∧ Below w.heap.size w w' := by
  go_enter Yba.func3, Yba.ntmps3
  go_wp2_with fail
  refine (run_any false false or nr i tO tN lO lN pO pN kn ls ch rel _ h1 h2 h3 h4).mono ?_
  rintro e w1 ⟨rfl, hb⟩
  have hb' : Below w.heap.size w w1 := ((Below.refl _ w).alloc (Nat.le_refl _) _).trans (hb.mono (by simp))
  clear hb
  go_wp2_with fail
  go_ret
  exact ⟨rfl, hb'⟩

theorem Yba.cells5 : Yba.prog.cellsOf 5 = 1 := by kernel_rfl
theorem Yba.cells22 : Yba.prog.cellsOf 22 = 1 := by kernel_rfl
theorem Yba.cells2 : Yba.prog.cellsOf 2 = 1 := by kernel_rfl
theorem Yba.cells24 : Yba.prog.cellsOf 24 = 13 := by kernel_rfl

set_option maxRecDepth 100000 in
theorem in_form {H : Type} {enc : TypeId × Value → H} {W : World} {r : Reach} {b0 : Nat} {v : Value} {d : DataW H} {p : List MemPlace}
    (hv : Value.okWide Yba.prog W r b0 24 v) (h : DataW.Trod enc Yba.prog W 0 (fun _ => true) true 24 v d p) :
    ∃ or nr i tO tN lO lN pO pN kn ls ch rel : Int, v = .agg #[.int .u8 or, .int .u8 nr, .int .u64 i, .int .u64 tO, .int .u64 tN, .int .u64 lO, .int .u64 lN, .int .u64 pO, .int .u64 pN, .int .u64 kn, .int .u64 ls, .int .u64 ch, .int .i64 rel] ∧
      0 ≤ or ∧ 0 ≤ nr ∧ -9223372036854775808 ≤ rel ∧ rel ≤ 9223372036854775807 := by
  obtain ⟨cs, rfl, hsz⟩ := okWide_struct Yba.underlying24 hv
  rw [Yba.cells24] at hsz
  obtain ⟨l⟩ := cs
  obtain ⟨fuel, hf⟩ := h
  obtain ⟨xs, n, _, _, _, hxl, hx⟩ := DataW.trod_struct Yba.underlying24 hf
  match l, hsz with
  | [c0, c1, c2, c3, c4, c5, c6, c7, c8, c9, c10, c11, c12], _ =>
    match xs, hxl with
    | [y0, y1, y2, y3, y4, y5, y6, y7, y8, y9, y10, y11, y12], _ =>
      have g0 := hx 0 _ rfl
      have g1 := hx 1 _ rfl
      have g2 := hx 2 _ rfl
      have g3 := hx 3 _ rfl
      have g4 := hx 4 _ rfl
      have g5 := hx 5 _ rfl
      have g6 := hx 6 _ rfl
      have g7 := hx 7 _ rfl
      have g8 := hx 8 _ rfl
      have g9 := hx 9 _ rfl
      have g10 := hx 10 _ rfl
      have g11 := hx 11 _ rfl
      have g12 := hx 12 _ rfl
      simp [Value.cells, Yba.cells5, Yba.cells22, Yba.cells2] at g0 g1 g2 g3 g4 g5 g6 g7 g8 g9 g10 g11 g12
      obtain ⟨z0, e0, _, q0⟩ := DataW.trod_int Yba.underlying5 g0
      obtain ⟨z1, e1, _, q1⟩ := DataW.trod_int Yba.underlying5 g1
      obtain ⟨z2, e2, _, _⟩ := DataW.trod_int Yba.underlying22 g2
      obtain ⟨z3, e3, _, _⟩ := DataW.trod_int Yba.underlying22 g3
      obtain ⟨z4, e4, _, _⟩ := DataW.trod_int Yba.underlying22 g4
      obtain ⟨z5, e5, _, _⟩ := DataW.trod_int Yba.underlying22 g5
      obtain ⟨z6, e6, _, _⟩ := DataW.trod_int Yba.underlying22 g6
      obtain ⟨z7, e7, _, _⟩ := DataW.trod_int Yba.underlying22 g7
      obtain ⟨z8, e8, _, _⟩ := DataW.trod_int Yba.underlying22 g8
      obtain ⟨z9, e9, _, _⟩ := DataW.trod_int Yba.underlying22 g9
      obtain ⟨z10, e10, _, _⟩ := DataW.trod_int Yba.underlying22 g10
      obtain ⟨z11, e11, _, _⟩ := DataW.trod_int Yba.underlying22 g11
      obtain ⟨z12, e12, _, q12⟩ := DataW.trod_int Yba.underlying2 g12
      simp at e0 e1 e2 e3 e4 e5 e6 e7 e8 e9 e10 e11 e12
      subst e0 e1 e2 e3 e4 e5 e6 e7 e8 e9 e10 e11 e12
      have r0 := bounds_u8 q0
      have r1 := bounds_u8 q1
      have r2 := bounds_i64 q12
      exact ⟨z0, z1, z2, z3, z4, z5, z6, z7, z8, z9, z10, z11, z12, rfl, r0.1, r1.1, r2.1, r2.2⟩
end Go.Proofs.Ybulkbfme
