import Derived.Test.YbulkbfmeBCallees
import Derived.Laws.EntriesVeiled
namespace Go.Proofs.Ybulkbfme
open Go.RowKit

theorem bcell {W w1 : World} (hb : Below W.heap.size W w1) : (∀ b o, b < W.heap.size → w1.cell? ⟨b, o, none⟩ = W.cell? ⟨b, o, none⟩) ∧ (∀ b o, b < W.heap.size → w1.frozen? ⟨b, o, none⟩ = W.frozen? ⟨b, o, none⟩) :=
  ⟨fun b o h => hb.cell (p := ⟨b, o, none⟩) h, fun b o h => hb.frozen (p := ⟨b, o, none⟩) h⟩

theorem flat_one (M : List (Int × ByteArray)) : ∀ u ∈ flat M, u.oneCell' = true := by
  intro u hu
  simp only [flat, List.mem_flatMap] at hu
  obtain ⟨m, _, hm⟩ := hu
  simp at hm
  rcases hm with rfl | rfl <;> rfl
theorem two_one (q : Int) (s : ByteArray) : ∀ u ∈ [Value.int .u64 q, .string s], u.oneCell' = true := by
  intro u hu
  simp at hu
  rcases hu with rfl | rfl <;> rfl
theorem two_new (w : World) (q : Int) (s : ByteArray) (t : TypeId) : ∀ j u, [Value.int .u64 q, .string s][j]? = some u → (w.alloc (.cells #[.int .u64 q, .string s] t)).cell? ((⟨w.heap.size, 0, none⟩ : Addr).add j) = some u := by
  intro j u hj
  match j, hj with
  | 0, hj => simp at hj; subst hj; simp [Addr.add]
  | 1, hj => simp at hj; subst hj; simp [Addr.add]
theorem flat_snoc (M : List (Int × ByteArray)) (q : Int) (s : ByteArray) : flat (M ++ [(q, s)]) = flat M ++ [.int .u64 q, .string s] := by simp [flat]
theorem addrL_snoc (q : Int) (s : ByteArray) (M : List (Int × ByteArray)) : (memL q M = true → addrL q M = addrL q (M ++ [(q, s)])) ∧ (memL q M = false → addrL q M = ByteArray.empty ∧ addrL q (M ++ [(q, s)]) = s) := by
  induction M with
  | nil => simp [memL, addrL]
  | cons m M ih =>
    by_cases h : m.1 = q
    · simp [memL, addrL, h]
    · have e : memL q (m :: M) = memL q M := by simp [memL, h]
      rw [e]
      simpa [addrL, h] using ih

set_option maxHeartbeats 400000 in
theorem law_long (a : Option Addr) (len cap : Nat) (id : Int) (extra : ByteArray) (small : Bool) (w : World) (h : 1024 < len) :
    Calls Yba.prog 6 #[.slice a len cap, .int .u64 id, .string extra, .bool small] w fun e w' => e = .returned (.bool true) ∧ Below w.heap.size w w' := by
  go_enter Yba.func6, Yba.ntmps6
  go_wp2
  go_ret
  exact ⟨rfl, Below.refl _ _⟩

set_option maxHeartbeats 400000 in
set_option maxRecDepth 20000 in
theorem law_plain (L : List (Int × ByteArray)) (a : Option Addr) (cap : Nat) (id : Int) (extra : ByteArray) (w : World) (hL : L.length ≤ 1024) (_hid : 0 ≤ id) (hm : IsMs w a L) :
    Calls Yba.prog 6 #[.slice a L.length cap, .int .u64 id, .string extra, .bool false] w fun e w' => e = .returned (.bool true) ∧ Below w.heap.size w w' := by
  obtain ⟨i0, hi, hz0, hz1, hz2⟩ := info_parts Yba.info41
  go_enter Yba.func6, Yba.ntmps6
  go_wp2_with fail

  refine (build_any L a cap false _ hL hm).mono ?_

  rintro e w1 ⟨rfl, hown, hb1⟩
  have HM : (L.map (red false)).length = L.length := by simp
  obtain ⟨M, hM⟩ : ∃ M, M = L.map (red false) := ⟨_, rfl⟩
  rw [← hM] at hown HM
  clear hM
  have hsz : w.heap.size < w1.heap.size := (hown.lt _ rfl).2
  have HO : Hid (w1.ownsRow w.heap.size 41 2 (.slice (some ⟨w.heap.size, 0, none⟩) L.length L.length) L.length (flat M)) := hown
  clear hown
  have HN : Hid (M.length = L.length) := HM
  clear HM
  go_wp2_with fail
  refine (addr_own M w.heap.size w.heap.size L.length L.length id _ HN.out (by omega) (HO.out.alloc _)).mono ?_
  rintro e w2 ⟨rfl, hb2⟩
  obtain ⟨hc2, hf2⟩ := bcell hb2
  have HO2 : Hid (w2.ownsRow w.heap.size 41 2 (.slice (some ⟨w.heap.size, 0, none⟩) L.length L.length) L.length (flat M)) := own_below (HO.out.alloc _) hb2 (fun k hk => by cases hk; simp; omega)
  have HB2 : Hid (Below w.heap.size w w2) := (hb1.alloc hb1.size _).trans (hb2.mono (by simp; omega))
  clear hb2 HO hb1
  go_wp2_with fail
  refine (member_own M w.heap.size w.heap.size L.length L.length id _ HN.out (by omega) HO2.out).mono ?_
  rintro e w3 ⟨rfl, hb3⟩
  have HO3 : Hid (w3.ownsRow w.heap.size 41 2 (.slice (some ⟨w.heap.size, 0, none⟩) L.length L.length) L.length (flat M)) := own_below HO2.out hb3 (fun k hk => by cases hk; exact (HO2.out.lt _ rfl).2)
  have HB3 : Hid (Below w.heap.size w w3) := HB2.out.trans (hb3.mono HB2.out.size)
  have hs3 : w.heap.size < w3.heap.size := (HO3.out.lt _ rfl).2
  clear hb3 hc2 hf2 HO2 HB2 hsz
  go_wp2_with (at_make; refine wpList_make_own _ rfl _ _ 28 rfl w3.heap.size 41 i0 _ 2 Yba.underlying28 hi hz0 hz1 _ _ _ (L.length + 1) rfl rfl (by omega) (by rw [hz2]; omega) (by unfold maxLen; omega) (Nat.le_refl _) ?_)
  intro w4 ho4 hg4
  have HO4 : Hid (w4.ownsRow w.heap.size 41 2 (.slice (some ⟨w.heap.size, 0, none⟩) L.length L.length) L.length (flat M)) := HO3.out.kept hg4 (.inr (by simp [Value.ownBlock]))
  have HB4 : Hid (Below w.heap.size w w4) := HB3.out.grown hg4 HB3.out.size (fun k hk => by cases hk)
  clear hg4 HB3 HO3
  go_wp2_with (at_builtin; refine wpList_append_fits _ rfl (.tmp 38) (.tmp 39) 28 rfl w3.heap.size 41 i0 2 Yba.underlying28 hi hz1 w3.heap.size 0 (L.length + 1) [] rfl ho4 ⟨w.heap.size, 0, none⟩ L.length L.length (flat M) rfl (by rw [flat_len, HN.out]) (HO4.out.cells rfl) (flat_one M) (by omega) ?_)
  intro w5 ho5 hg5
  have HB5 : Hid (Below w.heap.size w w5) := HB4.out.grown hg5 HB4.out.size (fun k hk => by cases hk; omega)
  have hs5 : w3.heap.size < w5.heap.size := (ho5.lt _ rfl).2
  clear hg5 HB4 HO4 ho4
  go_wp2_with (at_builtin; refine wpList_append_fits _ rfl (.tmp 41) (.tmp 45) 28 rfl w3.heap.size 41 i0 2 Yba.underlying28 hi hz1 w3.heap.size L.length (L.length + 1) (flat M) rfl (ho5.alloc _) ⟨w5.heap.size, 0, none⟩ 1 1 [.int .u64 id, .string extra] rfl rfl (two_new _ _ _ _) (two_one _ _) (by omega) ?_)
  intro w6 ho6 hg6
  have HB6 : Hid (Below w.heap.size w w6) := (HB5.out.alloc HB5.out.size _).grown hg6 (by simp; omega) (fun k hk => by cases hk; omega)
  rw [← flat_snoc M id extra] at ho6
  clear hg6 HB5 ho5
  go_wp2_with fail
  refine (addr_own (M ++ [(id, extra)]) _ w3.heap.size (L.length + 1) (L.length + 1) id _ (by simp [HN.out]) (by omega) ho6).mono ?_
  rintro e w7 ⟨rfl, hb7⟩
  have HB7 : Hid (Below w.heap.size w w7) := HB6.out.trans (hb7.mono HB6.out.size)
  clear hb7 HB6 ho6 hi hz0 hz1 hz2
  obtain ⟨A, hA⟩ : ∃ A, A = addrL id M := ⟨_, rfl⟩
  obtain ⟨B, hB⟩ : ∃ B, B = addrL id (M ++ [(id, extra)]) := ⟨_, rfl⟩
  obtain ⟨p1, p2⟩ := addrL_snoc id extra M
  rw [← hA, ← hB] at p1 p2
  rw [← hA, ← hB]
  clear hA hB
  cases hmem : memL id M
  · obtain ⟨rfl, rfl⟩ := p2 hmem
    clear p1 p2 hmem
    go_wp2
    go_ret
    exact ⟨rfl, HB7.out⟩
  · obtain rfl := p1 hmem
    clear p1 p2 hmem
    go_wp2
    go_ret
    exact ⟨rfl, HB7.out⟩

set_option maxHeartbeats 400000 in
set_option maxRecDepth 20000 in
theorem law_small (L : List (Int × ByteArray)) (a : Option Addr) (cap : Nat) (id : Int) (extra : ByteArray) (w : World) (hL : L.length ≤ 1024) (hid : 0 ≤ id) (hm : IsMs w a L) :
    Calls Yba.prog 6 #[.slice a L.length cap, .int .u64 id, .string extra, .bool true] w fun e w' => e = .returned (.bool true) ∧ Below w.heap.size w w' := by
  obtain ⟨i0, hi, hz0, hz1, hz2⟩ := info_parts Yba.info41
  go_enter Yba.func6, Yba.ntmps6
  go_wp2_with fail

  refine (build_any L a cap true _ hL hm).mono ?_

  rintro e w1 ⟨rfl, hown, hb1⟩
  have HM : (L.map (red true)).length = L.length := by simp
  obtain ⟨M, hM⟩ : ∃ M, M = L.map (red true) := ⟨_, rfl⟩
  rw [← hM] at hown HM
  clear hM
  have hsz : w.heap.size < w1.heap.size := (hown.lt _ rfl).2
  have HO : Hid (w1.ownsRow w.heap.size 41 2 (.slice (some ⟨w.heap.size, 0, none⟩) L.length L.length) L.length (flat M)) := hown
  clear hown
  have HN : Hid (M.length = L.length) := HM
  clear HM
  go_wp2_with fail
  refine (addr_own M w.heap.size w.heap.size L.length L.length (id % 6) _ HN.out (by omega) (HO.out.alloc _)).mono ?_
  rintro e w2 ⟨rfl, hb2⟩
  obtain ⟨hc2, hf2⟩ := bcell hb2
  have HO2 : Hid (w2.ownsRow w.heap.size 41 2 (.slice (some ⟨w.heap.size, 0, none⟩) L.length L.length) L.length (flat M)) := own_below (HO.out.alloc _) hb2 (fun k hk => by cases hk; simp; omega)
  have HB2 : Hid (Below w.heap.size w w2) := (hb1.alloc hb1.size _).trans (hb2.mono (by simp; omega))
  clear hb2 HO hb1
  go_wp2_with fail
  refine (member_own M w.heap.size w.heap.size L.length L.length (id % 6) _ HN.out (by omega) HO2.out).mono ?_
  rintro e w3 ⟨rfl, hb3⟩
  have HO3 : Hid (w3.ownsRow w.heap.size 41 2 (.slice (some ⟨w.heap.size, 0, none⟩) L.length L.length) L.length (flat M)) := own_below HO2.out hb3 (fun k hk => by cases hk; exact (HO2.out.lt _ rfl).2)
  have HB3 : Hid (Below w.heap.size w w3) := HB2.out.trans (hb3.mono HB2.out.size)
  have hs3 : w.heap.size < w3.heap.size := (HO3.out.lt _ rfl).2
  clear hb3 hc2 hf2 HO2 HB2 hsz
  go_wp2_with (at_make; refine wpList_make_own _ rfl _ _ 28 rfl w3.heap.size 41 i0 _ 2 Yba.underlying28 hi hz0 hz1 _ _ _ (L.length + 1) rfl rfl (by omega) (by rw [hz2]; omega) (by unfold maxLen; omega) (Nat.le_refl _) ?_)
  intro w4 ho4 hg4
  have HO4 : Hid (w4.ownsRow w.heap.size 41 2 (.slice (some ⟨w.heap.size, 0, none⟩) L.length L.length) L.length (flat M)) := HO3.out.kept hg4 (.inr (by simp [Value.ownBlock]))
  have HB4 : Hid (Below w.heap.size w w4) := HB3.out.grown hg4 HB3.out.size (fun k hk => by cases hk)
  clear hg4 HB3 HO3
  go_wp2_with (at_builtin; refine wpList_append_fits _ rfl (.tmp 38) (.tmp 39) 28 rfl w3.heap.size 41 i0 2 Yba.underlying28 hi hz1 w3.heap.size 0 (L.length + 1) [] rfl ho4 ⟨w.heap.size, 0, none⟩ L.length L.length (flat M) rfl (by rw [flat_len, HN.out]) (HO4.out.cells rfl) (flat_one M) (by omega) ?_)
  intro w5 ho5 hg5
  have HB5 : Hid (Below w.heap.size w w5) := HB4.out.grown hg5 HB4.out.size (fun k hk => by cases hk; omega)
  have hs5 : w3.heap.size < w5.heap.size := (ho5.lt _ rfl).2
  clear hg5 HB4 HO4 ho4
  go_wp2_with (at_builtin; refine wpList_append_fits _ rfl (.tmp 41) (.tmp 45) 28 rfl w3.heap.size 41 i0 2 Yba.underlying28 hi hz1 w3.heap.size L.length (L.length + 1) (flat M) rfl (ho5.alloc _) ⟨w5.heap.size, 0, none⟩ 1 1 [.int .u64 (id % 6), .string extra] rfl rfl (two_new _ _ _ _) (two_one _ _) (by omega) ?_)
  intro w6 ho6 hg6
  have HB6 : Hid (Below w.heap.size w w6) := (HB5.out.alloc HB5.out.size _).grown hg6 (by simp; omega) (fun k hk => by cases hk; omega)
  rw [← flat_snoc M (id % 6) extra] at ho6
  clear hg6 HB5 ho5
  go_wp2_with fail
  refine (addr_own (M ++ [(id % 6, extra)]) _ w3.heap.size (L.length + 1) (L.length + 1) (id % 6) _ (by simp [HN.out]) (by omega) ho6).mono ?_
  rintro e w7 ⟨rfl, hb7⟩
  have HB7 : Hid (Below w.heap.size w w7) := HB6.out.trans (hb7.mono HB6.out.size)
  clear hb7 HB6 ho6 hi hz0 hz1 hz2
  obtain ⟨A, hA⟩ : ∃ A, A = addrL (id % 6) M := ⟨_, rfl⟩
  obtain ⟨B, hB⟩ : ∃ B, B = addrL (id % 6) (M ++ [(id % 6, extra)]) := ⟨_, rfl⟩
  obtain ⟨p1, p2⟩ := addrL_snoc (id % 6) extra M
  rw [← hA, ← hB] at p1 p2
  rw [← hA, ← hB]
  clear hA hB
  cases hmem : memL (id % 6) M
  · obtain ⟨rfl, rfl⟩ := p2 hmem
    clear p1 p2 hmem
    go_wp2
    go_ret
    exact ⟨rfl, HB7.out⟩
  · obtain rfl := p1 hmem
    clear p1 p2 hmem
    go_wp2
    go_ret
    exact ⟨rfl, HB7.out⟩

theorem law_any (L : List (Int × ByteArray)) (a : Option Addr) (cap : Nat) (id : Int) (extra : ByteArray) (small : Bool) (w : World) (hid : 0 ≤ id) (hm : IsMs w a L) :
    Calls Yba.prog 6 #[.slice a L.length cap, .int .u64 id, .string extra, .bool small] w fun e w' => e = .returned (.bool true) ∧ Below w.heap.size w w' := by
  by_cases h : 1024 < L.length
  · exact law_long a L.length cap id extra small w h
  · cases small
    · exact law_plain L a cap id extra w (by omega) hid hm
    · exact law_small L a cap id extra w (by omega) hid hm
end Go.Proofs.Ybulkbfme
