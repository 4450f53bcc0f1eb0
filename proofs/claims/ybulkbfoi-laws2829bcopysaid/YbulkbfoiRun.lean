import Derived.Test.YbulkbfoiRunG
namespace Go.Proofs.Ybulkbfoi
open Go.RowKit
set_option linter.unusedSimpArgs false
set_option linter.unusedVariables false
set_option maxRecDepth 100000 in
set_option maxHeartbeats 2000000 in
theorem run_any (a0 a1 a2 a3 : Option Addr) (len0 cap0 len1 cap1 len2 cap2 len3 cap3 : Nat) (q qid : Int) (w : World) (ids md : Nat → Int) (ds ps : List Int) (hl0 : len0 ≤ maxLen) (hl2 : len2 ≤ maxLen) (hl3 : len3 ≤ maxLen)
    (hE : len2 ≤ 1024 → len3 ≤ 1024 → ∀ n, n ≤ len0 → n ≤ 8 → Env a0 a1 a2 a3 len0 cap0 len1 cap1 len2 cap2 len3 cap3 q qid w n ids md ds ps) :
    Calls Yba.prog 3 #[.slice a0 len0 cap0, .slice a1 len1 cap1, .slice a2 len2 cap2, .slice a3 len3 cap3, .int .u8 q, .int .u64 qid] w fun e w' => e = .returned (.bool true) ∧ Below w.heap.size w w' := by
  unfold maxLen at hl0 hl2 hl3
  by_cases h2 : len2 ≤ 1024
  · by_cases h3 : len3 ≤ 1024
    · have HE := hide (hE h2 h3)
      clear hE
      go_enter Yba.func3, Yba.ntmps3
      refine seq_cut fun J K hJ hK => ?_
      go_wp2_with fail
      refine Met.intro (hJ.out _ _ ?_)
      clear hJ
      refine seq_cut fun J K hJ hK => ?_
      go_wp2_with fail
      refine Met.intro (hJ.out _ _ ?_)
      clear hJ
      refine seq_cut fun J K hJ hK => ?_
      go_wp2_with fail
      refine Met.intro (hJ.out _ _ ?_)
      clear hJ
      refine seq_cut fun J K hJ hK => ?_
      by_cases h8 : 8 < len0
      · go_wp2_with fail
        refine Met.intro (hJ.out _ _ ?_)
        exact tail4 a0 a1 a2 a3 len0 cap0 len1 cap1 len2 cap2 len3 cap3 q qid w 8 ids md ds ps _ _ _ _ _ _ _ _ _ _ _ _ _ _ _ _ _ _ _ _ _ _ _ _ _ _ _ _ _ _ _ _ _ _ _ _ _ _ _ _ _ _ _ _ _ _ _ _ _ _ _ _ _ _ _ _ _ _ _ _ _ _ _ _ _ _ _ _ _ _ _ _ _ _ _ _ _ _ _ _ _ _ _ _ _ _ _ _ _ _ _ _ _ _ _ _ _ _ _ _ _ _ _ _ _ _ _ _ _ _ _ _ _ _ _ _ _ _ _ _ _ _ _ _ _ _ _ _ _ _ _ _ _ _ _ _ _ _ _ _ _ _ _ _ _ _ _ _ _ _ _ _ _ _ _ _ _ _ _ _ _ _ _ _ _ _ _ _ _ _ _ _ _ _ _ _ _ _ _ _ _ _ _ _ _ _ _ _ _ _ _ _ _ _ _ _ _ _ _ _ _ _ _ _ _ _ _ _ _ _ _ _ _ _ _ _ _ _ _ _ _ _ _ _ _ _ _ _ _ _ _ _ _ _ _ _ _ _ _ _ _ (HE.out 8 (by omega) (by omega)) (Below.refl _ _) rfl
      · go_wp2_with fail
        refine Met.intro (hJ.out _ _ ?_)
        exact tail4 a0 a1 a2 a3 len0 cap0 len1 cap1 len2 cap2 len3 cap3 q qid w len0 ids md ds ps _ _ _ _ _ _ _ _ _ _ _ _ _ _ _ _ _ _ _ _ _ _ _ _ _ _ _ _ _ _ _ _ _ _ _ _ _ _ _ _ _ _ _ _ _ _ _ _ _ _ _ _ _ _ _ _ _ _ _ _ _ _ _ _ _ _ _ _ _ _ _ _ _ _ _ _ _ _ _ _ _ _ _ _ _ _ _ _ _ _ _ _ _ _ _ _ _ _ _ _ _ _ _ _ _ _ _ _ _ _ _ _ _ _ _ _ _ _ _ _ _ _ _ _ _ _ _ _ _ _ _ _ _ _ _ _ _ _ _ _ _ _ _ _ _ _ _ _ _ _ _ _ _ _ _ _ _ _ _ _ _ _ _ _ _ _ _ _ _ _ _ _ _ _ _ _ _ _ _ _ _ _ _ _ _ _ _ _ _ _ _ _ _ _ _ _ _ _ _ _ _ _ _ _ _ _ _ _ _ _ _ _ _ _ _ _ _ _ _ _ _ _ _ _ _ _ _ _ _ _ _ _ _ _ _ _ _ _ _ _ _ (HE.out len0 (by omega) (by omega)) (Below.refl _ _) rfl
    · clear hE
      go_enter Yba.func3, Yba.ntmps3
      go_wp2
      go_ret
      exact ⟨rfl, Below.refl _ _⟩
  · clear hE
    go_enter Yba.func3, Yba.ntmps3
    go_wp2
    go_ret
    exact ⟨rfl, Below.refl _ _⟩
end Go.Proofs.Ybulkbfoi
