/-
  No cell of these rows narrows 'for every input' (looked for: loops, veiled, ifaces, maps, wideKeys, modest, calm, conditions, laid).
  DERIVED. THE GIVEN ROWS OF THIS SEAT. 1 by the template 'for every input the law returns true; each argument reads behind the call as it read before'; 0 by the template 'total and deterministic' (their statements: YbulkbfoiTotals.lean).
  GIVEN WITH THE SEED: the statements are not yours to turn. If you find one false, say at which input.
  Laid BY PROGRAM, IN A SANDBOX (cutbox-rows.mjs): the forced cells as the released guide's own fill.sh prints them over the translation a23aa37253efc707… (all of the seat's roots in one cut). By AI agents, Wed Nov 11 2026. No macro, syntax, notation, axiom, sorry.
-/
import Derived.Test.YbulkbfoiChecked
import GoSem.Claim
import GoSem.ClaimJoined
import GoSem.ClaimMapViews
import Derived.JoinedTies
import Derived.KernelRfl
namespace Go.Proofs.Ybulkbfoi
/- THE CELL 'sum', in the pinned program and in every row, IS THE sha256 OF THE DUMP (.gsa) THAT YbulkbfoiProg.lean LOADS. Nothing in Lean hashes anything: it is a label: what it is worth is what the hold of that sum in a sandbox is worth. -/
noncomputable def Yba.pinned : Pinned := { name := "ybulkbfoi", sum := "a23aa37253efc707c356986f6b39ae2d877dffa8ee37659d75d0717a76a0f930", checked := Yba.checked }
namespace Rows
def none {H : Type} : Left H := { results := [], args := [] }

/-- 'btree.LawS2829BCopy': WHATEVER THE INPUT: true; the input reads as it did. -/
def lawS2829BCopySpec : ChangeSpec := { name := "lawS2829BCopy", fn := fun _ => fun
  | [d1, d2, d3, d4, d5, d6] => { results := [.lit (.bool true)], args := [d1, d2, d3, d4, d5, d6] }
  | _ => none }
def lawS2829BCopyRow : OpenClaim := { program := "ybulkbfoi", sum := "a23aa37253efc707c356986f6b39ae2d877dffa8ee37659d75d0717a76a0f930", func := "example.com/redolith/redolith/internal/btree.LawS2829BCopy", spec := "lawS2829BCopy", inPlace := ["sync/atomic.StoreUint32", "sync/atomic.LoadUint64", "sync/atomic.StoreUint64", "sync/atomic.StorePointer", "sync/atomic.LoadPointer", "sync/atomic.LoadUint32"], apart := false }
def LawS2829BCopySaid : Prop := lawS2829BCopyRow.holds Yba.pinned (OpenSpec.ofChange lawS2829BCopySpec)

/-- ITS FALSE NEIGHBOUR: 'it returns false'. Refute it at one input. -/
def lawS2829BCopyWrong : ChangeSpec := { name := "lawS2829BCopy", fn := fun _ => fun
  | [d1, d2, d3, d4, d5, d6] => { results := [.lit (.bool false)], args := [d1, d2, d3, d4, d5, d6] }
  | _ => none }
def LawS2829BCopyWrongFalsely : Prop := lawS2829BCopyRow.holds Yba.pinned (OpenSpec.ofChange lawS2829BCopyWrong)

end Rows
end Go.Proofs.Ybulkbfoi
