/-
  No cell of these rows narrows 'for every input' (looked for: loops, veiled, ifaces, maps, wideKeys, modest, calm, conditions, laid).
  DERIVED. THE GIVEN ROWS OF THIS SEAT. 2 by the template 'for every input the law returns true; each argument reads behind the call as it read before'; 0 by the template 'total and deterministic' (their statements: YbulkbfmsTotals.lean).
  GIVEN WITH THE SEED: the statements are not yours to turn. If you find one false, say at which input.
  Laid BY PROGRAM, IN A SANDBOX (cutbox-rows.mjs): the forced cells as the released guide's own fill.sh prints them over the translation 262c39e347b7a005… (all of the seat's roots in one cut). By AI agents, Wed Nov 11 2026. No macro, syntax, notation, axiom, sorry.
-/
import Derived.Test.YbulkbfmsChecked
import GoSem.Claim
import GoSem.ClaimJoined
import GoSem.ClaimMapViews
import Derived.JoinedTies
import Derived.KernelRfl
namespace Go.Proofs.Ybulkbfms
/- THE CELL 'sum', in the pinned program and in every row, IS THE sha256 OF THE DUMP (.gsa) THAT YbulkbfmsProg.lean LOADS. Nothing in Lean hashes anything: it is a label: what it is worth is what the hold of that sum in a sandbox is worth. -/
noncomputable def Yba.pinned : Pinned := { name := "ybulkbfms", sum := "262c39e347b7a0058e1c049cbd3235681dcf5d096bab1d727a417ce07b49253a", checked := Yba.checked }
namespace Rows
def none {H : Type} : Left H := { results := [], args := [] }

/-- 'checkwright.LawS2826CModel': WHATEVER THE INPUT: true; the input reads as it did. -/
def lawS2826CModelSpec : ChangeSpec := { name := "lawS2826CModel", fn := fun _ => fun
  | [d] => { results := [.lit (.bool true)], args := [d] }
  | _ => none }
def lawS2826CModelRow : OpenClaim := { program := "ybulkbfms", sum := "262c39e347b7a0058e1c049cbd3235681dcf5d096bab1d727a417ce07b49253a", func := "example.com/checkwright/checkwright.LawS2826CModel", spec := "lawS2826CModel", apart := false }
def LawS2826CModelSaid : Prop := lawS2826CModelRow.holds Yba.pinned (OpenSpec.ofChange lawS2826CModelSpec)

/-- ITS FALSE NEIGHBOUR: 'it returns false'. Refute it at one input. -/
def lawS2826CModelWrong : ChangeSpec := { name := "lawS2826CModel", fn := fun _ => fun
  | [d] => { results := [.lit (.bool false)], args := [d] }
  | _ => none }
def LawS2826CModelWrongFalsely : Prop := lawS2826CModelRow.holds Yba.pinned (OpenSpec.ofChange lawS2826CModelWrong)

/-- 'checkwright.LawS2826CBuilt': WHATEVER THE INPUT: true; the input reads as it did. -/
def lawS2826CBuiltSpec : ChangeSpec := { name := "lawS2826CBuilt", fn := fun _ => fun
  | [d1, d2, d3] => { results := [.lit (.bool true)], args := [d1, d2, d3] }
  | _ => none }
def lawS2826CBuiltRow : OpenClaim := { program := "ybulkbfms", sum := "262c39e347b7a0058e1c049cbd3235681dcf5d096bab1d727a417ce07b49253a", func := "example.com/checkwright/checkwright.LawS2826CBuilt", spec := "lawS2826CBuilt", apart := false }
def LawS2826CBuiltSaid : Prop := lawS2826CBuiltRow.holds Yba.pinned (OpenSpec.ofChange lawS2826CBuiltSpec)

/-- ITS FALSE NEIGHBOUR: 'it returns false'. Refute it at one input. -/
def lawS2826CBuiltWrong : ChangeSpec := { name := "lawS2826CBuilt", fn := fun _ => fun
  | [d1, d2, d3] => { results := [.lit (.bool false)], args := [d1, d2, d3] }
  | _ => none }
def LawS2826CBuiltWrongFalsely : Prop := lawS2826CBuiltRow.holds Yba.pinned (OpenSpec.ofChange lawS2826CBuiltWrong)

end Rows
end Go.Proofs.Ybulkbfms
