/-
  No cell of these rows narrows 'for every input' (looked for: loops, veiled, ifaces, maps, wideKeys, modest, calm, conditions, laid).
  DERIVED. THE GIVEN ROWS OF THIS SEAT. 4 by the template 'for every input the law returns true; each argument reads behind the call as it read before'; 0 by the template 'total and deterministic' (their statements: YbulkbfmeTotals.lean).
  GIVEN WITH THE SEED: the statements are not yours to turn. If you find one false, say at which input.
  Laid BY PROGRAM, IN A SANDBOX (cutbox-rows.mjs): the forced cells as the released guide's own fill.sh prints them over the translation 0468a28f6dfa5c6d… (all of the seat's roots in one cut). By AI agents, Wed Nov 11 2026. No macro, syntax, notation, axiom, sorry.
-/
import Derived.Test.YbulkbfmeChecked
import GoSem.Claim
import GoSem.ClaimJoined
import GoSem.ClaimMapViews
import Derived.JoinedTies
import Derived.KernelRfl
namespace Go.Proofs.Ybulkbfme
/- THE CELL 'sum', in the pinned program and in every row, IS THE sha256 OF THE DUMP (.gsa) THAT YbulkbfmeProg.lean LOADS. Nothing in Lean hashes anything: it is a label: what it is worth is what the hold of that sum in a sandbox is worth. -/
noncomputable def Yba.pinned : Pinned := { name := "ybulkbfme", sum := "0468a28f6dfa5c6dee55866c107d57d353d32732efe9bacfda7a3a5b17ffc929", checked := Yba.checked }
namespace Rows
def none {H : Type} : Left H := { results := [], args := [] }

/-- 'convoke.LawS2825AExact': WHATEVER THE INPUT: true; the input reads as it did. -/
def lawS2825AExactSpec : ChangeSpec := { name := "lawS2825AExact", fn := fun _ => fun
  | [d] => { results := [.lit (.bool true)], args := [d] }
  | _ => none }
def lawS2825AExactRow : OpenClaim := { program := "ybulkbfme", sum := "0468a28f6dfa5c6dee55866c107d57d353d32732efe9bacfda7a3a5b17ffc929", func := "example.com/convoke/convoke.LawS2825AExact", spec := "lawS2825AExact", inPlace := ["(*internal/sync.Mutex).Lock", "internal/race.Disable", "sync/atomic.CompareAndSwapInt32", "internal/race.Enable", "internal/race.Acquire", "(*internal/sync.Mutex).lockSlow", "internal/sync.runtime_canSpin", "internal/sync.runtime_doSpin", "internal/sync.throw", "internal/sync.runtime_nanotime", "internal/sync.runtime_SemacquireMutex", "sync/atomic.AddInt32", "(*internal/sync.Mutex).Unlock", "internal/race.ReleaseMerge", "(*internal/sync.Mutex).unlockSlow", "internal/sync.fatal", "internal/sync.runtime_Semrelease"], unfollowed := true, recurses := true, plainKeys := false, apart := false }
def LawS2825AExactSaid : Prop := lawS2825AExactRow.holds Yba.pinned (OpenSpec.ofChange lawS2825AExactSpec)

/-- ITS FALSE NEIGHBOUR: 'it returns false'. Refute it at one input. -/
def lawS2825AExactWrong : ChangeSpec := { name := "lawS2825AExact", fn := fun _ => fun
  | [d] => { results := [.lit (.bool false)], args := [d] }
  | _ => none }
def LawS2825AExactWrongFalsely : Prop := lawS2825AExactRow.holds Yba.pinned (OpenSpec.ofChange lawS2825AExactWrong)

/-- 'convoke.LawS2825ANilCallbacks': WHATEVER THE INPUT: true; the input reads as it did. -/
def lawS2825ANilCallbacksSpec : ChangeSpec := { name := "lawS2825ANilCallbacks", fn := fun _ => fun
  | [d1, d2, d3] => { results := [.lit (.bool true)], args := [d1, d2, d3] }
  | _ => none }
def lawS2825ANilCallbacksRow : OpenClaim := { program := "ybulkbfme", sum := "0468a28f6dfa5c6dee55866c107d57d353d32732efe9bacfda7a3a5b17ffc929", func := "example.com/convoke/convoke.LawS2825ANilCallbacks", spec := "lawS2825ANilCallbacks", inPlace := ["(*internal/sync.Mutex).Lock", "internal/race.Disable", "sync/atomic.CompareAndSwapInt32", "internal/race.Enable", "internal/race.Acquire", "(*internal/sync.Mutex).lockSlow", "internal/sync.runtime_canSpin", "internal/sync.runtime_doSpin", "internal/sync.throw", "internal/sync.runtime_nanotime", "internal/sync.runtime_SemacquireMutex", "sync/atomic.AddInt32", "(*internal/sync.Mutex).Unlock", "internal/race.ReleaseMerge", "(*internal/sync.Mutex).unlockSlow", "internal/sync.fatal", "internal/sync.runtime_Semrelease"], unfollowed := true, recurses := true, plainKeys := false, apart := false }
def LawS2825ANilCallbacksSaid : Prop := lawS2825ANilCallbacksRow.holds Yba.pinned (OpenSpec.ofChange lawS2825ANilCallbacksSpec)

/-- ITS FALSE NEIGHBOUR: 'it returns false'. Refute it at one input. -/
def lawS2825ANilCallbacksWrong : ChangeSpec := { name := "lawS2825ANilCallbacks", fn := fun _ => fun
  | [d1, d2, d3] => { results := [.lit (.bool false)], args := [d1, d2, d3] }
  | _ => none }
def LawS2825ANilCallbacksWrongFalsely : Prop := lawS2825ANilCallbacksRow.holds Yba.pinned (OpenSpec.ofChange lawS2825ANilCallbacksWrong)

/-- 'convoke.LawS2825BFirstMatch': WHATEVER THE INPUT: true; the input reads as it did. -/
def lawS2825BFirstMatchSpec : ChangeSpec := { name := "lawS2825BFirstMatch", fn := fun _ => fun
  | [d1, d2, d3] => { results := [.lit (.bool true)], args := [d1, d2, d3] }
  | _ => none }
def lawS2825BFirstMatchRow : OpenClaim := { program := "ybulkbfme", sum := "0468a28f6dfa5c6dee55866c107d57d353d32732efe9bacfda7a3a5b17ffc929", func := "example.com/convoke/convoke.LawS2825BFirstMatch", spec := "lawS2825BFirstMatch", plainKeys := false, apart := false }
def LawS2825BFirstMatchSaid : Prop := lawS2825BFirstMatchRow.holds Yba.pinned (OpenSpec.ofChange lawS2825BFirstMatchSpec)

/-- ITS FALSE NEIGHBOUR: 'it returns false'. Refute it at one input. -/
def lawS2825BFirstMatchWrong : ChangeSpec := { name := "lawS2825BFirstMatch", fn := fun _ => fun
  | [d1, d2, d3] => { results := [.lit (.bool false)], args := [d1, d2, d3] }
  | _ => none }
def LawS2825BFirstMatchWrongFalsely : Prop := lawS2825BFirstMatchRow.holds Yba.pinned (OpenSpec.ofChange lawS2825BFirstMatchWrong)

/-- 'convoke.LawS2825BAppend': WHATEVER THE INPUT: true; the input reads as it did. -/
def lawS2825BAppendSpec : ChangeSpec := { name := "lawS2825BAppend", fn := fun _ => fun
  | [d1, d2, d3, d4] => { results := [.lit (.bool true)], args := [d1, d2, d3, d4] }
  | _ => none }
def lawS2825BAppendRow : OpenClaim := { program := "ybulkbfme", sum := "0468a28f6dfa5c6dee55866c107d57d353d32732efe9bacfda7a3a5b17ffc929", func := "example.com/convoke/convoke.LawS2825BAppend", spec := "lawS2825BAppend", unfollowed := true, recurses := true, plainKeys := false, apart := false }
def LawS2825BAppendSaid : Prop := lawS2825BAppendRow.holds Yba.pinned (OpenSpec.ofChange lawS2825BAppendSpec)

/-- ITS FALSE NEIGHBOUR: 'it returns false'. Refute it at one input. -/
def lawS2825BAppendWrong : ChangeSpec := { name := "lawS2825BAppend", fn := fun _ => fun
  | [d1, d2, d3, d4] => { results := [.lit (.bool false)], args := [d1, d2, d3, d4] }
  | _ => none }
def LawS2825BAppendWrongFalsely : Prop := lawS2825BAppendRow.holds Yba.pinned (OpenSpec.ofChange lawS2825BAppendWrong)

end Rows
end Go.Proofs.Ybulkbfme
