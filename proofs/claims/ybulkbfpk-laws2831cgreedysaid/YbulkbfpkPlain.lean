import Derived.Test.YbulkbfpkDrop
namespace Go.Proofs.Ybulkbfpk
open Go.RowKit
def pickI (sv : Nat → Int) (m : Nat) : List Value := (List.range m).map fun j => .int .i32 (sv j)
theorem pickI_succ (sv : Nat → Int) (m : Nat) : pickI sv (m + 1) = pickI sv m ++ [.int .i32 (sv m)] := by simp [pickI, List.range_succ]
theorem pickI_length (sv : Nat → Int) (m : Nat) : (pickI sv m).length = m := by simp [pickI]
/-- The plain data of the input. -/
structure Inp where
  n : Nat
  st : Nat → Int
  en : Nat → Int
  atm : Nat → Int
  rom : Nat → Int
  fre : Nat → Int
  opn : Nat → Int
  dev : Nat → Int
  cor : Nat → Int
  sm : Nat → Nat
  sv : Nat → Nat → Int
  kd : Bool
namespace Inp
def keep (I : Inp) (k : Nat) : Bool := k == 0 || I.st k % 3 != 0 || I.en k % 3 != 0
def K (I : Inp) : Nat → Nat
  | 0 => 0
  | k + 1 => if I.keep k then I.K k + 1 else I.K k
def kp (I : Inp) : Nat → Nat → Nat
  | 0 => fun _ => 0
  | k + 1 => if I.keep k then upd (I.kp k) (I.K k) k else I.kp k
def rm (I : Inp) : Nat → Nat → Int
  | 0 => fun _ => 0
  | k + 1 => if I.keep k then upd (I.rm k) (I.K k) (I.rom k) else upd (I.rm k) (I.K k - 1) (min (I.rm k (I.K k - 1)) (I.rom k))
def nx (I : Inp) (a : Nat) : Nat := I.K (a + 1) - 1
def dropX (I : Inp) (X : Nat → List Value) (k : Nat) : Nat → List Value := fun i =>
  if i = 3 then X 3 ++ pickI (I.sv k) (I.sm k) else if i = 0 then X 0 ++ [.int .i32 (I.opn k)] else if i = 1 then (if I.kd then X 1 ++ [.int .i32 (I.dev k)] else X 1) else if i = 2 then (if I.cor k = -1 then X 2 else X 2 ++ [.int .i32 (I.cor k)]) else X i
def X (I : Inp) : Nat → Nat → List Value
  | 0 => fun _ => []
  | k + 1 => if I.keep k then I.X k else I.dropX (I.X k) k
theorem K_le (I : Inp) : ∀ k, I.K k ≤ k
  | 0 => Nat.le_refl _
  | k + 1 => by
    have := I.K_le k
    simp only [K]
    split <;> omega
theorem K_mono1 (I : Inp) (k : Nat) : I.K k ≤ I.K (k + 1) := by
  simp only [K]
  split <;> omega
theorem K_pos (I : Inp) : ∀ k, 0 < k → 0 < I.K k
  | 0, h => by omega
  | 1, _ => by simp [K, keep]
  | k + 2, _ => Nat.lt_of_lt_of_le (I.K_pos (k + 1) (by omega)) (I.K_mono1 (k + 1))
theorem nx_le (I : Inp) (a : Nat) : I.nx a ≤ a := by
  have := I.K_le (a + 1)
  unfold nx; omega
theorem kp_lt (I : Inp) : ∀ k i, i < I.K k → I.kp k i < k
  | 0, i, h => by simp [K] at h
  | k + 1, i, h => by
    have ih := I.kp_lt k
    simp only [K] at h
    simp only [kp]
    by_cases hk : I.keep k = true
    · simp only [hk, if_true] at h ⊢
      by_cases hi : i = I.K k
      · subst hi; rw [upd_eq]; omega
      · rw [upd_ne _ _ hi]; have := ih i (by omega); omega
    · rw [if_neg hk] at h ⊢
      have := ih i h; omega
theorem X_len (I : Inp) (c : Nat) (hc : 1 ≤ c) (hs : ∀ k, k < I.n → I.sm k ≤ c) : ∀ k i, k ≤ I.n → (I.X k i).length ≤ k * c
  | 0, i, _ => by simp [X]
  | k + 1, i, h => by
    have ih := I.X_len c hc hs k i (by omega)
    have h1 := hs k (by omega)
    rw [Nat.succ_mul]
    simp only [X]
    split
    · omega
    · simp only [dropX]
      by_cases e3 : i = 3
      · subst e3; simp [pickI_length]; omega
      · by_cases e0 : i = 0
        · subst e0; simp; omega
        · by_cases e1 : i = 1
          · subst e1
            by_cases hd : I.kd = true <;> simp [hd] <;> omega
          · by_cases e2 : i = 2
            · subst e2
              by_cases hd : I.cor k = -1 <;> simp [hd] <;> omega
            · simp [e0, e1, e2, e3]; omega
theorem K_keep {I : Inp} {k : Nat} (h : I.keep k = true) : I.K (k + 1) = I.K k + 1 ∧ I.kp (k + 1) = upd (I.kp k) (I.K k) k ∧ I.rm (k + 1) = upd (I.rm k) (I.K k) (I.rom k) ∧ I.X (k + 1) = I.X k := by
  simp [K, kp, rm, X, h]
theorem K_skip {I : Inp} {k : Nat} (h : I.keep k = false) : I.K (k + 1) = I.K k ∧ I.kp (k + 1) = I.kp k ∧ I.rm (k + 1) = upd (I.rm k) (I.K k - 1) (min (I.rm k (I.K k - 1)) (I.rom k)) ∧ I.X (k + 1) = I.dropX (I.X k) k := by
  simp [K, kp, rm, X, h]
end Inp
end Go.Proofs.Ybulkbfpk
