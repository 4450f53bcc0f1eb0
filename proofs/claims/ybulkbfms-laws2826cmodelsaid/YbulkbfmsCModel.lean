import Derived.Test.YbulkbfmsRows
import Derived.WalkKit
import Derived.WalkSpells
import Derived.WalkLawsBesides
import Derived.Below
namespace Go.Proofs.Ybulkbfms
open Go.RowKit

def spI (z : Int) : Bool := z == 32 || (z == 9 || (z == 61 || z == 39))
def anySp (l : List UInt8) : Bool := l.any fun c => spI c.toNat
def nq (s : ByteArray) : Bool := s.size == 0 || anySp s.data.toList
theorem ret_bool {a b : Bool} (h : a = b) : Ending.returned (.bool a) = .returned (.bool b) := by rw [h]

theorem take_snoc (s : ByteArray) (k : Nat) (h : k < s.size) : s.data.toList.take (k + 1) = s.data.toList.take k ++ [s[k]] := by
  rw [List.take_succ_eq_append_getElem (by simpa using h)]; rfl
theorem anySp_snoc (l : List UInt8) (c : UInt8) : anySp (l ++ [c]) = (anySp l || spI c.toNat) := by simp [anySp]
theorem anySp_hit {s : ByteArray} {k : Nat} (h : k < s.size) (hs : spI (s[k].toNat : Int) = true) : nq s = true := by
  have : anySp s.data.toList = true := by
    simp only [anySp, List.any_eq_true]
    exact ⟨s[k], Array.getElem_mem_toList _, hs⟩
  simp [nq, this]
theorem anySp_step {s : ByteArray} {k : Nat} (h : k < s.size) (h0 : anySp (s.data.toList.take k) = false) (hs : spI (s[k].toNat : Int) = false) : anySp (s.data.toList.take (k + 1)) = false := by
  rw [take_snoc s k h, anySp_snoc, h0, hs]; rfl
theorem anySp_end {s : ByteArray} {k : Nat} (h : s.size ≤ k) (hp : 0 < s.size) (h0 : anySp (s.data.toList.take k) = false) : nq s = false := by
  rw [List.take_of_length_le (by simpa using h)] at h0
  have e : (s.size == 0) = false := beq_eq_false_iff_ne.2 (by omega)
  rw [nq, h0, e]; rfl
theorem empty_of {s : ByteArray} (h : s.size = 0) : s.toList.isEmpty = true := by
  rw [ByteArray.toList_eq, List.isEmpty_iff_length_eq_zero]; simpa using h
theorem not_empty_of {s : ByteArray} (h : ¬ s.size = 0) : s.toList.isEmpty = false := by
  rw [ByteArray.toList_eq, ← Bool.not_eq_true, List.isEmpty_iff_length_eq_zero]; simpa using h

set_option maxHeartbeats 400000 in
theorem needs_any (s : ByteArray) (w : World) (hs : s.size ≤ 9223372036854775807) :
    Calls Yba.prog 6 #[.string s] w fun e w' => e = .returned (.bool (nq s)) ∧ w' = w := by
  by_cases h0 : s.size = 0
  · have he : s.toList.isEmpty = true := empty_of h0
    go_enter Yba.func6, Yba.ntmps6
    go_wp2
    go_ret
    exact ⟨ret_bool (by simp [nq, h0]), rfl⟩
  · have he : s.toList.isEmpty = false := not_empty_of h0
    go_enter Yba.func6, Yba.ntmps6
    go_wp2
    go_loop [3] (fun i => ∃ k : Nat, k ≤ s.size ∧ i = .int .i64 k ∧ anySp (s.data.toList.take k) = false) (fun i => s.size - (intOf i).toNat)
    case atStart => exact ⟨0, Nat.zero_le _, rfl, rfl⟩
    case round =>
      obtain ⟨k, hk, rfl, HA⟩ := hrel
      have HX : Hid (anySp (s.data.toList.take k) = false) := HA
      clear HA
      by_cases hlt : k < s.size
      · go_wp2
        · go_ret
          exact ⟨ret_bool (anySp_hit hlt (by have h1 : (((s[k].toNat : Nat) : Int) == 32) = true := by assumption
                                             simp [spI, h1])).symm, rfl⟩
        · go_ret
          exact ⟨ret_bool (anySp_hit hlt (by have h1 : (((s[k].toNat : Nat) : Int) == 9) = true := by assumption
                                             simp [spI, h1])).symm, rfl⟩
        · go_ret
          exact ⟨ret_bool (anySp_hit hlt (by have h1 : (((s[k].toNat : Nat) : Int) == 61) = true := by assumption
                                             simp [spI, h1])).symm, rfl⟩
        · go_ret
          exact ⟨ret_bool (anySp_hit hlt (by have h1 : (((s[k].toNat : Nat) : Int) == 39) = true := by assumption
                                             simp [spI, h1])).symm, rfl⟩
        · go_round
          case rel =>
            refine ⟨k + 1, by omega, by go_num, anySp_step hlt HX.out ?_⟩
            have h1 : (((s[k].toNat : Nat) : Int) == 32) = false := by assumption
            have h2 : (((s[k].toNat : Nat) : Int) == 9) = false := by assumption
            have h3 : (((s[k].toNat : Nat) : Int) == 61) = false := by assumption
            have h4 : (((s[k].toNat : Nat) : Int) == 39) = false := by assumption
            simp [spI, h1, h2, h3, h4]
          case measure => simp [intOf]; omega
      · go_wp2
        go_ret
        exact ⟨ret_bool (anySp_end (by omega) (by omega) HX.out).symm, rfl⟩

set_option maxHeartbeats 400000 in
theorem special_any (z : Int) (w : World) :
    Calls Yba.prog 5 #[.int .u8 z] w fun e w' => e = .returned (.bool (spI z)) ∧ w' = w := by
  cases h1 : (z == 32)
  · cases h2 : (z == 9)
    · cases h3 : (z == 61)
      all_goals
        go_enter Yba.func5, Yba.ntmps5
        go_wp2
        go_ret
        exact ⟨ret_bool (by simp [spI, h1, h2, h3]), rfl⟩
    · go_enter Yba.func5, Yba.ntmps5
      go_wp2
      go_ret
      exact ⟨ret_bool (by simp [spI, h1, h2]), rfl⟩
  · go_enter Yba.func5, Yba.ntmps5
    go_wp2
    go_ret
    exact ⟨ret_bool (by simp [spI, h1]), rfl⟩

set_option maxRecDepth 20000 in
set_option maxHeartbeats 400000 in
theorem model_any (s : ByteArray) (w : World) (hs : s.size ≤ 9223372036854775807) :
    Calls Yba.prog 3 #[.string s] w fun e w' => e = .returned (.bool true) ∧ w' = w := by
  by_cases hl : 4096 < s.size
  · go_enter Yba.func3, Yba.ntmps3
    go_wp2
    go_ret
    exact ⟨rfl, rfl⟩
  · go_enter Yba.func3, Yba.ntmps3
    go_wp2
    go_loop [3, 4] (fun v i => ∃ k : Nat, k ≤ s.size ∧ i = .int .i64 k ∧ v = .bool (((s.size : Int) == 0) || anySp (s.data.toList.take k))) (fun _ i => s.size - (intOf i).toNat)
    case atStart => exact ⟨0, Nat.zero_le _, rfl, by simp [anySp]⟩
    case round =>
      obtain ⟨k, hk, rfl, rfl⟩ := hrel
      by_cases hlt : k < s.size
      · cases hsp : spI (s[k].toNat : Int)
        · have HX : Hid ((((s.size : Int) == 0) || anySp (s.data.toList.take k)) = (((s.size : Int) == 0) || anySp (s.data.toList.take (k + 1)))) := by
            rw [take_snoc s k hlt, anySp_snoc, hsp]; simp [Hid]
          obtain ⟨v, hv⟩ : ∃ v, v = (((s.size : Int) == 0) || anySp (s.data.toList.take k)) := ⟨_, rfl⟩
          rw [← hv] at HX ⊢
          clear hv
          go_wp2_with (go_at_call 5; refine (special_any _ _).mono ?_; rw [hsp]; rintro e w' ⟨rfl, rfl⟩)
          go_round
          case rel => exact ⟨k + 1, by omega, by go_num, by rw [HX.out]⟩
          case measure => simp [intOf]; omega
        · have HX : Hid ((((s.size : Int) == 0) || anySp (s.data.toList.take (k + 1))) = true) := by
            rw [take_snoc s k hlt, anySp_snoc, hsp]; simp [Hid]
          go_wp2_with (go_at_call 5; refine (special_any _ _).mono ?_; rw [hsp]; rintro e w' ⟨rfl, rfl⟩)
          go_round
          case rel => exact ⟨k + 1, by omega, by go_num, by rw [HX.out]⟩
          case measure => simp [intOf]; omega
      · have HE : Hid ((((s.size : Int) == 0) || anySp (s.data.toList.take k)) = nq s) := by
          rw [List.take_of_length_le (by simp; omega)]
          have e : ((s.size : Int) == 0) = (s.size == 0) := by rw [Bool.eq_iff_iff]; simp
          rw [e]; rfl
        rw [HE.out]
        obtain ⟨b, hb⟩ : ∃ b, b = nq s := ⟨_, rfl⟩
        have hn := fun w => needs_any s w hs
        rw [← hb] at hn ⊢
        have HNn : Hid _ := hn
        clear hn hb HE
        go_wp2_with (go_at_call 6; refine (HNn.out _).mono ?_; rintro e w' ⟨rfl, rfl⟩)
        go_ret
        exact ⟨ret_bool (by simp), rfl⟩
end Go.Proofs.Ybulkbfms
