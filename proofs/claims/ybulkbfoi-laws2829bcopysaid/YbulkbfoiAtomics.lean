import Derived.Test.YbulkbfoiRows
import Derived.WalkKit
import Derived.WalkSpells
import Derived.WalkLawsBesides
import Derived.Laws.EntriesVeiled
import Derived.Laws.LoneSync
import Derived.Deep.RegionHeld3
namespace Go.Proofs.Ybulkbfoi
open Go.RowKit
set_option linter.unusedSimpArgs false

/-- sync/atomic.LoadPointer: what the cell holds. -/
theorem load_ptr (a : Addr) (p : Option Addr) (w : World) (hc : w.cell? a = some (.pointer p)) : (callFunc 23 #[.pointer (some a)]).run Yba.prog w = .ok (.value (.pointer p)) w := by
  rw [run_callFunc_extern (P := Yba.prog) Yba.func23 (by kernel_rfl) (by kernel_rfl) (by kernel_rfl) (show Extern.find Yba.f23 = some (Extern.Atomic.loadT .ptr) by kernel_rfl)]
  change (Sem.run Yba.prog (do Extern.Atomic.read .ptr (← asAddr (.pointer (some a)))) w).andThen _ = _
  simp [Extern.Atomic.read, asAddr, hc, Result.andThen]
theorem store_ptr (a : Addr) (p : Option Addr) (u : Value) (w : World) (hc : w.cell? a = some u) (hz : w.frozen? a = false) : (callFunc 17 #[.pointer (some a), .pointer p]).run Yba.prog w = .ok (.value (.tuple #[])) (w.setCell a (.pointer p)) := by
  rw [run_callFunc_extern (P := Yba.prog) Yba.func17 (by kernel_rfl) (by kernel_rfl) (by kernel_rfl) (show Extern.find Yba.f17 = some Extern.Atomic.storeT by kernel_rfl)]
  change (Sem.run Yba.prog (do
    store (← asAddr (.pointer (some a))) (.pointer p) .atomic
    pure Extern.Atomic.none_) w).andThen _ = _
  simp [asAddr, hc, hz, run_store Yba.prog w a (.pointer p) .atomic rfl, Result.andThen, Extern.Atomic.none_]
theorem load64 (a : Addr) (x : Int) (w : World) (hc : w.cell? a = some (.int .u64 x)) : (callFunc 22 #[.pointer (some a)]).run Yba.prog w = .ok (.value (.int .u64 x)) w :=
  run_call_load (P := Yba.prog) Yba.func22 (by kernel_rfl) (by kernel_rfl) (by kernel_rfl) .u64 (by kernel_rfl) hc
theorem load32 (a : Addr) (x : Int) (w : World) (hc : w.cell? a = some (.int .u32 x)) : (callFunc 21 #[.pointer (some a)]).run Yba.prog w = .ok (.value (.int .u32 x)) w :=
  run_call_load (P := Yba.prog) Yba.func21 (by kernel_rfl) (by kernel_rfl) (by kernel_rfl) .u32 (by kernel_rfl) hc
theorem store64 (a : Addr) (y : Int) (u : Value) (w : World) (hc : w.cell? a = some u) (hz : w.frozen? a = false) : (callFunc 16 #[.pointer (some a), .int .u64 y]).run Yba.prog w = .ok (.value (.tuple #[])) (w.setCell a (.int .u64 y)) :=
  run_call_store (P := Yba.prog) Yba.func16 (by kernel_rfl) (by kernel_rfl) (by kernel_rfl) (by kernel_rfl) hc hz
theorem store32 (a : Addr) (y : Int) (u : Value) (w : World) (hc : w.cell? a = some u) (hz : w.frozen? a = false) : (callFunc 13 #[.pointer (some a), .int .u32 y]).run Yba.prog w = .ok (.value (.tuple #[])) (w.setCell a (.int .u32 y)) :=
  run_call_store (P := Yba.prog) Yba.func13 (by kernel_rfl) (by kernel_rfl) (by kernel_rfl) (by kernel_rfl) hc hz

theorem to_raw_frame (a : Addr) (v : Value) (w : World) (hc : w.cell? a = some v) : (convert 31 51 (.pointer (some a))).run Yba.prog w = .ok (.pointer (some a)) w :=
  run_convert_to_unsafe (P := Yba.prog) Yba.underlying31 Yba.underlying51 (by kernel_rfl) hc
theorem to_raw_nil (w : World) : (convert 31 51 (.pointer none)).run Yba.prog w = .ok (.pointer none) w := by kernel_rfl
theorem of_raw_nil (w : World) : (convert 51 31 (.pointer none)).run Yba.prog w = .ok (.pointer none) w := by kernel_rfl
theorem to_raw_table (a : Addr) (v : Value) (w : World) (hc : w.cell? a = some v) : (convert 25 51 (.pointer (some a))).run Yba.prog w = .ok (.pointer (some a)) w :=
  run_convert_to_unsafe (P := Yba.prog) Yba.underlying25 Yba.underlying51 (by kernel_rfl) hc

set_option maxHeartbeats 400000 in
theorem bload_any (b o : Nat) (x : Int) (w : World) (hc : w.cell? ⟨b, o, none⟩ = some (.int .u32 x)) :
    Calls Yba.prog 12 #[.pointer (some ⟨b, o, none⟩)] w fun e w' => e = .returned (.bool (x != 0)) ∧ w' = w := by
  have hl := load32 ⟨b, o, none⟩ x w hc
  go_enter Yba.func12, Yba.ntmps12
  go_wp2
  go_ret
  exact ⟨rfl, rfl⟩
set_option maxHeartbeats 400000 in
theorem load_any (b o : Nat) (x : Int) (w : World) (hc : w.cell? ⟨b, o, none⟩ = some (.int .u64 x)) :
    Calls Yba.prog 15 #[.pointer (some ⟨b, o, none⟩)] w fun e w' => e = .returned (.int .u64 x) ∧ w' = w := by
  have hl := load64 ⟨b, o, none⟩ x w hc
  go_enter Yba.func15, Yba.ntmps15
  go_wp2
  go_ret
  exact ⟨rfl, rfl⟩
set_option maxHeartbeats 400000 in
theorem store_any (b o : Nat) (x : Int) (u : Value) (w : World) (hc : w.cell? ⟨b, o, none⟩ = some u) (hz : w.frozen? ⟨b, o, none⟩ = false) :
    Calls Yba.prog 6 #[.pointer (some ⟨b, o, none⟩), .int .u64 x] w fun e w' => e = .returned (.tuple #[]) ∧ w' = w.setCell ⟨b, o, none⟩ (.int .u64 x) := by
  have hl := store64 ⟨b, o, none⟩ x u w hc hz
  go_enter Yba.func6, Yba.ntmps6
  go_wp2
  go_end0
  exact ⟨rfl, rfl⟩
set_option maxHeartbeats 400000 in
theorem b32_any (x : Bool) (w : World) :
    Calls Yba.prog 14 #[.bool x] w fun e w' => e = .returned (.int .u32 (if x then 1 else 0)) ∧ w' = w := by
  cases x
  all_goals
    go_enter Yba.func14, Yba.ntmps14
    go_wp2
    go_ret
    exact ⟨rfl, rfl⟩

theorem lies43 : liesAt Yba.prog Yba.prog.depth 43 (39 / Yba.prog.cellsOf 43) 0 43 1 = true := by kernel_rfl
theorem lies29 : liesAt Yba.prog Yba.prog.depth 29 (68 / Yba.prog.cellsOf 29) 0 29 1 = true := by kernel_rfl
theorem of_raw_frame (b : Nat) (w : World) (hsh : w.shape? b = some (43, 39)) : (convert 51 31 (.pointer (some ⟨b, 0, none⟩))).run Yba.prog w = .ok (.pointer (some ⟨b, 0, none⟩)) w := by
  obtain ⟨i0, hi⟩ : ∃ i, Yba.prog.info? 43 = some i := Option.isSome_iff_exists.1 (by kernel_rfl)
  simp [convert, Conv.unsafePointer, Conv.seenAt, viewAt, variablesAt, sizeOf, typeInfo, run_underlying Yba.underlying51, run_underlying Yba.underlying31, hsh, hi, Result.andThen, lies43]
theorem of_raw_table (b : Nat) (w : World) (hsh : w.shape? b = some (29, 68)) : (convert 51 25 (.pointer (some ⟨b, 0, none⟩))).run Yba.prog w = .ok (.pointer (some ⟨b, 0, none⟩)) w := by
  obtain ⟨i0, hi⟩ : ∃ i, Yba.prog.info? 29 = some i := Option.isSome_iff_exists.1 (by kernel_rfl)
  simp [convert, Conv.unsafePointer, Conv.seenAt, viewAt, variablesAt, sizeOf, typeInfo, run_underlying Yba.underlying51, run_underlying Yba.underlying25, hsh, hi, Result.andThen, lies29]

set_option maxHeartbeats 400000 in
theorem bstore_any (b o : Nat) (u : Value) (w : World) (hc : w.cell? ⟨b, o, none⟩ = some u) (hz : w.frozen? ⟨b, o, none⟩ = false) :
    Calls Yba.prog 4 #[.pointer (some ⟨b, o, none⟩), .bool true] w fun e w' => e = .returned (.tuple #[]) ∧ w' = (w.setCell ⟨b, o, none⟩ (.int .u32 1)).drew := by
  have hl1 : (callFunc 13 #[.pointer (some ⟨b, o, none⟩), .int .u32 1]).run Yba.prog w.drew = .ok (.value (.tuple #[])) (w.drew.setCell ⟨b, o, none⟩ (.int .u32 1)) := store32 ⟨b, o, none⟩ 1 u _ hc hz
  go_enter Yba.func4, Yba.ntmps4
  go_wp2_with fail
  go_region_with (go_at_call 14; refine (b32_any _ _).mono ?_; rintro e w' ⟨rfl, rfl⟩)
  all_goals
    go_wp2
    go_end0
    exact ⟨rfl, rfl⟩
set_option maxHeartbeats 400000 in
theorem pstore_any (b o fb : Nat) (u v : Value) (w : World) (hc : w.cell? ⟨b, o, none⟩ = some u) (hz : w.frozen? ⟨b, o, none⟩ = false) (hf : w.cell? ⟨fb, 0, none⟩ = some v) :
    Calls Yba.prog 7 #[.pointer (some ⟨b, o, none⟩), .pointer (some ⟨fb, 0, none⟩)] w fun e w' => e = .returned (.tuple #[]) ∧ w' = w.setCell ⟨b, o, none⟩ (.pointer (some ⟨fb, 0, none⟩)) := by
  have hl := store_ptr ⟨b, o, none⟩ (some ⟨fb, 0, none⟩) u w hc hz
  have hcv := to_raw_frame ⟨fb, 0, none⟩ v w hf
  go_enter Yba.func7, Yba.ntmps7
  go_wp2
  go_end0
  exact ⟨rfl, rfl⟩
set_option maxHeartbeats 400000 in
theorem pstore_nil (b o : Nat) (u : Value) (w : World) (hc : w.cell? ⟨b, o, none⟩ = some u) (hz : w.frozen? ⟨b, o, none⟩ = false) :
    Calls Yba.prog 7 #[.pointer (some ⟨b, o, none⟩), .pointer none] w fun e w' => e = .returned (.tuple #[]) ∧ w' = w.setCell ⟨b, o, none⟩ (.pointer none) := by
  have hl := store_ptr ⟨b, o, none⟩ none u w hc hz
  have hcv := to_raw_nil w
  go_enter Yba.func7, Yba.ntmps7
  go_wp2
  go_end0
  exact ⟨rfl, rfl⟩
set_option maxHeartbeats 400000 in
theorem tstore_any (b o fb : Nat) (u v : Value) (w : World) (hc : w.cell? ⟨b, o, none⟩ = some u) (hz : w.frozen? ⟨b, o, none⟩ = false) (hf : w.cell? ⟨fb, 0, none⟩ = some v) :
    Calls Yba.prog 8 #[.pointer (some ⟨b, o, none⟩), .pointer (some ⟨fb, 0, none⟩)] w fun e w' => e = .returned (.tuple #[]) ∧ w' = w.setCell ⟨b, o, none⟩ (.pointer (some ⟨fb, 0, none⟩)) := by
  have hl := store_ptr ⟨b, o, none⟩ (some ⟨fb, 0, none⟩) u w hc hz
  have hcv := to_raw_table ⟨fb, 0, none⟩ v w hf
  go_enter Yba.func8, Yba.ntmps8
  go_wp2
  go_end0
  exact ⟨rfl, rfl⟩
set_option maxHeartbeats 400000 in
theorem pload_any (b o fb : Nat) (w : World) (hc : w.cell? ⟨b, o, none⟩ = some (.pointer (some ⟨fb, 0, none⟩))) (hf : w.shape? fb = some (43, 39)) :
    Calls Yba.prog 24 #[.pointer (some ⟨b, o, none⟩)] w fun e w' => e = .returned (.pointer (some ⟨fb, 0, none⟩)) ∧ w' = w := by
  have hl := load_ptr ⟨b, o, none⟩ (some ⟨fb, 0, none⟩) w hc
  have hcv := of_raw_frame fb w hf
  go_enter Yba.func24, Yba.ntmps24
  go_wp2
  go_ret
  exact ⟨rfl, rfl⟩
set_option maxHeartbeats 400000 in
theorem pload_nil (b o : Nat) (w : World) (hc : w.cell? ⟨b, o, none⟩ = some (.pointer none)) :
    Calls Yba.prog 24 #[.pointer (some ⟨b, o, none⟩)] w fun e w' => e = .returned (.pointer none) ∧ w' = w := by
  have hl := load_ptr ⟨b, o, none⟩ none w hc
  have hcv := of_raw_nil w
  go_enter Yba.func24, Yba.ntmps24
  go_wp2
  go_ret
  exact ⟨rfl, rfl⟩
set_option maxHeartbeats 400000 in
theorem tload_any (b o fb : Nat) (w : World) (hc : w.cell? ⟨b, o, none⟩ = some (.pointer (some ⟨fb, 0, none⟩))) (hf : w.shape? fb = some (29, 68)) :
    Calls Yba.prog 18 #[.pointer (some ⟨b, o, none⟩)] w fun e w' => e = .returned (.pointer (some ⟨fb, 0, none⟩)) ∧ w' = w := by
  have hl := load_ptr ⟨b, o, none⟩ (some ⟨fb, 0, none⟩) w hc
  have hcv := of_raw_table fb w hf
  go_enter Yba.func18, Yba.ntmps18
  go_wp2
  go_ret
  exact ⟨rfl, rfl⟩
end Go.Proofs.Ybulkbfoi
