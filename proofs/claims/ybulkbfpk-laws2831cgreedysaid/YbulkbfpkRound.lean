import Derived.Test.YbulkbfpkPlace
import Derived.RangeFuncNested
import Derived.RangeFuncBound
import Derived.RangeFuncCalls
import Derived.RangeFuncLeaves
import Derived.RangeFuncFrom
import Derived.Shelf.Abstract
import Derived.Shelf.RegionOpen
import Derived.OwnWalkIn
import Derived.TacticsInMore
import Derived.LoopNIn
import Derived.LoopIn
import Derived.OrdersHeld
namespace Go.Proofs.Ybulkbfpk
open Go.RowKit Go.Shelf
theorem oper_in (l n : Nat) {P : Program} {o : Oper} {a : Act} {w : World} {K : Act → World → Prop} {Q : Exit → Act → World → Prop} (hd : ∀ c, o.op ≠ .defer c) (h : Oper.wp P o a w K Q) : Oper.wpIn (Fence.wide.inRound l) n P o a w K Q := by
  refine ⟨fun _ _ => trivial, ?_⟩
  show o.uponIn _ _ _ _ _ _ ((o.semAt (some l) a.eval).run P w)
  rw [Oper.semAt_some l a.eval o hd]
  unfold Oper.wp at h
  generalize (execOp a.eval o).run P w = r at h ⊢
  cases r with
  | ok x w' =>
    cases x
    case enter f args => exact ⟨fun h => (by cases h), CallsIn.inRound l (callsIn_wide.2 h)⟩
    case round => exact (h : False).elim
    case row r args => exact ⟨fun h => (by cases h), fun c cs _ => let ⟨v, w', r, s⟩ := h c cs; ⟨v, w', r, stepsIn_wide.2 s⟩⟩
    all_goals exact h
  | halt x w' =>
    cases x <;> exact h
theorem wpOp_in (l n : Nat) {P : Program} {ops : Array Oper} (hd : ∀ (i : Nat) o, ops[i]? = some o → ∀ c, o.op ≠ .defer c) {Q : Exit → Act → World → Prop} {i : Nat} {K K' : Act → World → Prop} {a : Act} {w : World} (hlo : ¬ LetsOut Q) (hK : ∀ a w, K a w → K' a w) (h : wpOp P ops Q i K a w) : wpOpIn (Fence.wide.inRound l) n P ops Q i K' a w := by
  unfold wpOp at h
  unfold wpOpIn
  cases ho : ops[i]? with
  | none => rw [ho] at h; exact hK _ _ h
  | some o =>
    rw [ho] at h
    dsimp only at h ⊢
    split at h
    · rename_i hw
      rw [if_pos hw]
      rcases h with h | ⟨_, h⟩
      · exact oper_in l n (hd i o ho) (Oper.wp_mono hK h)
      · exact absurd h hlo
    · rename_i hw
      rw [if_neg hw]
      exact ⟨fun _ _ => trivial, hK _ _ h⟩
theorem wpAny_in (l n : Nat) {P : Program} {md : Region.Mode} {ops : Array Oper} (hd : ∀ (i : Nat) o, ops[i]? = some o → ∀ c, o.op ≠ .defer c) {Q : Exit → Act → World → Prop} (hlo : ¬ LetsOut Q) : ∀ (fuel : Nat) (listed : Array Bool) (a : Act) (w : World), wpAny P md ops Q fuel listed a w → wpAnyIn (Fence.wide.inRound l) n P md ops Q fuel listed a w
  | 0, _, _, _, h => h
  | fuel + 1, _, _, _, h => ⟨h.1, fun i hi => wpOp_in l n hd hlo (fun a w h => wpAny_in l n hd hlo fuel _ a w h) (h.2 i hi)⟩
theorem region_in (l n : Nat) {P : Program} {ops : Array Oper} {id : Nat} {Q : Exit → Act → World → Prop} {a : Act} {w : World} {S : World → Prop} (hm : P.follows .mixedOrders = true) (hd : ∀ (i : Nat) o, ops[i]? = some o → ∀ c, o.op ≠ .defer c) (hlo : ¬ LetsOut Q)
    (h : wpAnyH P .any ops Q S ops.size (Array.replicate ops.size false) a w.drew) : (Code.region id ops true).wpIn (Fence.wide.inRound l) n P Q a w :=
  wpIn_region_any hm (wpAny_in l n hd hlo _ _ _ _ (wpAny_of_held _ _ _ _ h))
end Go.Proofs.Ybulkbfpk
