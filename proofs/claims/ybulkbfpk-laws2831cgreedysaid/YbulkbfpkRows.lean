/-
  No cell of these rows narrows 'for every input' (looked for: loops, veiled, ifaces, maps, wideKeys, modest, calm, conditions, laid).
  DERIVED. THE GIVEN ROWS OF THIS SEAT. 2 by the template 'for every input the law returns true; each argument reads behind the call as it read before'; 0 by the template 'total and deterministic' (their statements: YbulkbfpkTotals.lean).
  GIVEN WITH THE SEED: the statements are not yours to turn. If you find one false, say at which input.
  Laid BY PROGRAM, IN A SANDBOX (cutbox-rows.mjs): the forced cells as the released guide's own fill.sh prints them over the translation e60dd23e06a881dc… (all of the seat's roots in one cut). By AI agents, Wed Nov 11 2026. No macro, syntax, notation, axiom, sorry.
-/
import Derived.Test.YbulkbfpkChecked
import GoSem.Claim
import GoSem.ClaimJoined
import GoSem.ClaimMapViews
import Derived.JoinedTies
import Derived.KernelRfl
namespace Go.Proofs.Ybulkbfpk
/- THE CELL 'sum', in the pinned program and in every row, IS THE sha256 OF THE DUMP (.gsa) THAT YbulkbfpkProg.lean LOADS. Nothing in Lean hashes anything: it is a label: what it is worth is what the hold of that sum in a sandbox is worth. -/
noncomputable def Yba.pinned : Pinned := { name := "ybulkbfpk", sum := "e60dd23e06a881dc01848afc10bf3a43a7928b326714d01b5047ad0feba98010", checked := Yba.checked }
namespace Rows
def none {H : Type} : Left H := { results := [], args := [] }

/-- 'queue.LawS2831ACompact': WHATEVER THE INPUT: true; the input reads as it did. -/
def lawS2831ACompactSpec : ChangeSpec := { name := "lawS2831ACompact", fn := fun _ => fun
  | [d1, d2, d3] => { results := [.lit (.bool true)], args := [d1, d2, d3] }
  | _ => none }
def lawS2831ACompactRow : OpenClaim := { program := "ybulkbfpk", sum := "e60dd23e06a881dc01848afc10bf3a43a7928b326714d01b5047ad0feba98010", func := "example.com/halyard/halyard/internal/queue.LawS2831ACompact", spec := "lawS2831ACompact", apart := false }
def LawS2831ACompactSaid : Prop := lawS2831ACompactRow.holds Yba.pinned (OpenSpec.ofChange lawS2831ACompactSpec)

/-- ITS FALSE NEIGHBOUR: 'it returns false'. Refute it at one input. -/
def lawS2831ACompactWrong : ChangeSpec := { name := "lawS2831ACompact", fn := fun _ => fun
  | [d1, d2, d3] => { results := [.lit (.bool false)], args := [d1, d2, d3] }
  | _ => none }
def LawS2831ACompactWrongFalsely : Prop := lawS2831ACompactRow.holds Yba.pinned (OpenSpec.ofChange lawS2831ACompactWrong)

/-- 'queue.LawS2831CGreedy': WHATEVER THE INPUT: true; the input reads as it did. -/
def lawS2831CGreedySpec : ChangeSpec := { name := "lawS2831CGreedy", fn := fun _ => fun
  | [d] => { results := [.lit (.bool true)], args := [d] }
  | _ => none }
def lawS2831CGreedyRow : OpenClaim := { program := "ybulkbfpk", sum := "e60dd23e06a881dc01848afc10bf3a43a7928b326714d01b5047ad0feba98010", func := "example.com/halyard/halyard/internal/queue.LawS2831CGreedy", spec := "lawS2831CGreedy", unfollowed := true, recurses := true, apart := false }
def LawS2831CGreedySaid : Prop := lawS2831CGreedyRow.holds Yba.pinned (OpenSpec.ofChange lawS2831CGreedySpec)

/-- ITS FALSE NEIGHBOUR: 'it returns false'. Refute it at one input. -/
def lawS2831CGreedyWrong : ChangeSpec := { name := "lawS2831CGreedy", fn := fun _ => fun
  | [d] => { results := [.lit (.bool false)], args := [d] }
  | _ => none }
def LawS2831CGreedyWrongFalsely : Prop := lawS2831CGreedyRow.holds Yba.pinned (OpenSpec.ofChange lawS2831CGreedyWrong)

end Rows
end Go.Proofs.Ybulkbfpk
