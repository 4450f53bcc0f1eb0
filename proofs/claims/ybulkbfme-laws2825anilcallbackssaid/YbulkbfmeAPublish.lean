import Derived.Test.YbulkbfmeATell
import Derived.Deep.RegionWith
import Derived.Deep.DeepCutAuto
namespace Go.Proofs.Ybulkbfme
open Go.RowKit Go.MuLone
set_option linter.unusedSimpArgs false

theorem size_set (w : World) (a : Addr) (u : Value) : (w.setCell a u).heap.size = w.heap.size := by simp [World.setCell]
theorem three_new (X : World) (A B C : Obj) : (((X.alloc A).alloc B).alloc C).heap[X.heap.size]? = some A ∧ (((X.alloc A).alloc B).alloc C).heap[X.heap.size + 1]? = some B ∧ (((X.alloc A).alloc B).alloc C).heap[X.heap.size + 1 + 1]? = some C := by
  have n1 : (X.alloc A).heap.size = X.heap.size + 1 := by simp
  have n2 : ((X.alloc A).alloc B).heap.size = X.heap.size + 1 + 1 := by simp
  have k0 := heap_alloc_new X A
  have k1 := heap_alloc_new (X.alloc A) B
  have k2 := heap_alloc_new ((X.alloc A).alloc B) C
  rw [n1] at k1
  rw [n2] at k2
  refine ⟨?_, ?_, k2⟩
  · exact (Below.heap_alloc _ _ _ (by omega)).trans ((Below.heap_alloc _ _ _ (by omega)).trans k0)
  · exact (Below.heap_alloc _ _ _ (by omega)).trans k1
theorem five_set (Z : World) (nb : Nat) (o0 o1 o2 o3 o4 : Nat) (v0 v1 v2 v3 v4 : Value) (k : Nat) (hk : k ≠ nb) :
    (((((Z.setCell ⟨nb, o0, none⟩ v0).setCell ⟨nb, o1, none⟩ v1).setCell ⟨nb, o2, none⟩ v2).setCell ⟨nb, o3, none⟩ v3).setCell ⟨nb, o4, none⟩ v4).heap[k]? = Z.heap[k]? :=
  (Below.heap_setCell _ _ _ _ hk).trans ((Below.heap_setCell _ _ _ _ hk).trans ((Below.heap_setCell _ _ _ _ hk).trans ((Below.heap_setCell _ _ _ _ hk).trans (Below.heap_setCell _ _ _ _ hk))))
theorem pre_blocks (w : World) (A B C : Obj) (nb : Nat) (hnb : nb < w.heap.size) (o o0 o1 o2 o3 o4 : Nat) (u v0 v1 v2 v3 v4 : Value) (Y : World)
    (hY : Y = (((((((((w.setCell ⟨nb, o, none⟩ u).alloc A).alloc B).alloc C).setCell ⟨nb, o0, none⟩ v0).setCell ⟨nb, o1, none⟩ v1).setCell ⟨nb, o2, none⟩ v2).setCell ⟨nb, o3, none⟩ v3).setCell ⟨nb, o4, none⟩ v4)) :
    Y.heap[w.heap.size]? = some A ∧ Y.heap[w.heap.size + 1]? = some B ∧ Y.heap[w.heap.size + 1 + 1]? = some C ∧ Y.heap.size = w.heap.size + 1 + 1 + 1 ∧ But [nb] w Y := by
  have e0 := size_set w ⟨nb, o, none⟩ u
  obtain ⟨k0, k1, k2⟩ := three_new (w.setCell ⟨nb, o, none⟩ u) A B C
  rw [e0] at k0 k1 k2
  refine ⟨?_, ?_, ?_, ?_, ?_⟩
  · rw [hY, five_set _ _ _ _ _ _ _ _ _ _ _ _ _ (by omega)]; exact k0
  · rw [hY, five_set _ _ _ _ _ _ _ _ _ _ _ _ _ (by omega)]; exact k1
  · rw [hY, five_set _ _ _ _ _ _ _ _ _ _ _ _ _ (by omega)]; exact k2
  · rw [hY]; simp only [size_set, World.size_alloc]
  · rw [hY]
    have hm : nb ∈ [nb] := List.mem_singleton.2 rfl
    exact ((((((((((But.of_below (Below.refl _ w)).setCell hm u).alloc A).alloc B).alloc C).setCell hm v0).setCell hm v1).setCell hm v2).setCell hm v3).setCell hm v4)

/-- What the rest of publish goes by: the three boxes, the node's block, the old blocks. -/
structure Mid (nb sb lb : Nat) (w : World) (S R L : Array Value) (N : Option Obj) (wx : World) : Prop where
  s : wx.heap[w.heap.size]? = some (.cells S 48)
  r : wx.heap[w.heap.size + 1]? = some (.cells R 51)
  l : wx.heap[w.heap.size + 1 + 1]? = some (.cells L 48)
  n : wx.heap[nb]? = N
  old : ∀ k, k < w.heap.size → k ≠ nb → k ≠ sb → k ≠ lb → wx.heap[k]? = w.heap[k]?
  size : w.heap.size + 3 ≤ wx.heap.size
  os : wx.os = w.os
  tape : wx.tape = w.tape
  output : wx.output = w.output

theorem Mid.step {nb sb lb : Nat} {w : World} {S R L : Array Value} {N : Option Obj} {wx wy : World} (h : Mid nb sb lb w S R L N wx) (hn : nb < w.heap.size) (h1 : nb ≠ sb) (h2 : nb ≠ lb) (hs : sb < w.heap.size) (hl : lb < w.heap.size)
    (hb : ∀ k, k < w.heap.size + 3 → k ≠ sb → k ≠ lb → wy.heap[k]? = wx.heap[k]?) (hz : wx.heap.size ≤ wy.heap.size) (ho : wy.os = wx.os ∧ wy.tape = wx.tape ∧ wy.output = wx.output) : Mid nb sb lb w S R L N wy :=
  ⟨(hb _ (by omega) (by omega) (by omega)).trans h.s, (hb _ (by omega) (by omega) (by omega)).trans h.r, (hb _ (by omega) (by omega) (by omega)).trans h.l, (hb _ (by omega) h1 h2).trans h.n,
    fun k hk k1 k2 k3 => (hb k (by omega) k2 k3).trans (h.old k hk k1 k2 k3), Nat.le_trans h.size hz, ho.1.trans h.os, ho.2.1.trans h.tape, ho.2.2.trans h.output⟩
theorem Mid.alloc {nb sb lb : Nat} {w : World} {S R L : Array Value} {N : Option Obj} {wx : World} (h : Mid nb sb lb w S R L N wx) (hn : nb < w.heap.size) (h1 : nb ≠ sb) (h2 : nb ≠ lb) (hs : sb < w.heap.size) (hl : lb < w.heap.size) (o : Obj) : Mid nb sb lb w S R L N (wx.alloc o) :=
  h.step hn h1 h2 hs hl (fun k hk _ _ => Below.heap_alloc _ _ _ (by have := h.size; omega)) (by simp) ⟨rfl, rfl, rfl⟩
theorem Mid.cells {nb sb lb : Nat} {w : World} {S R L : Array Value} {N : Option Obj} {wx : World} (h : Mid nb sb lb w S R L N wx) :
    (∀ o, wx.cell? ⟨w.heap.size, o, none⟩ = S[o]?) ∧ (∀ o, wx.cell? ⟨w.heap.size + 1, o, none⟩ = R[o]?) ∧ (∀ o, wx.cell? ⟨w.heap.size + 1 + 1, o, none⟩ = L[o]?) :=
  ⟨fun o => cell_of_row wx _ o S 48 (0, 0) h.s, fun o => cell_of_row wx _ o R 51 (0, 0) h.r, fun o => cell_of_row wx _ o L 48 (0, 0) h.l⟩
theorem Mid.node {nb sb lb : Nat} {w : World} {S R L : Array Value} {w2 wx : World} (h : Mid nb sb lb w S R L w2.heap[nb]? wx) (o : Nat) : wx.cell? ⟨nb, o, none⟩ = w2.cell? ⟨nb, o, none⟩ := World.cell?_of_block (a := ⟨nb, o, none⟩) h.n

theorem own_base {w : World} {b b' E n : Nat} {v : Value} {xs : List Value} (h : w.ownsRow b E 5 v n xs) (hb : b' ≤ b) : w.ownsRow b' E 5 v n xs := by
  refine ⟨h.1, ?_⟩
  rcases h.2 with hn | ⟨g, cap, cur, rfl, hg, rest⟩
  · exact .inl hn
  · exact .inr ⟨g, cap, cur, rfl, Nat.le_trans hb hg, rest⟩
theorem own_keep {w w' : World} {b E n : Nat} {v : Value} {xs : List Value} (h : w.ownsRow b E 5 v n xs) (hk : ∀ k, v.ownBlock = some k → w'.heap[k]? = w.heap[k]?) : w'.ownsRow b E 5 v n xs := by
  refine ⟨h.1, ?_⟩
  rcases h.2 with hn | ⟨g, cap, cur, rfl, hg, hgg, rest⟩
  · exact .inl hn
  · exact .inr ⟨g, cap, cur, rfl, hg, (hk g rfl).trans hgg, rest⟩
/-- Two rows of different element types are two blocks. -/
theorem own_ne {w : World} {b b' n n' : Nat} {v u : Value} {xs ys : List Value} (h : w.ownsRow b 48 5 v n xs) (h' : w.ownsRow b' 56 5 u n' ys) : ∀ k, v.ownBlock = some k → some k ≠ u.ownBlock := by
  intro k hk e
  rcases h.2 with ⟨rfl, _⟩ | ⟨g, cap, cur, rfl, _, hg, _⟩
  · simp [Value.ownBlock] at hk
  · rcases h'.2 with ⟨rfl, _⟩ | ⟨g', cap', cur', rfl, _, hg', _⟩
    · simp [Value.ownBlock] at e
    · simp [Value.ownBlock] at hk e
      subst hk
      subst e
      rw [hg] at hg'
      simp at hg'

theorem status_rel {nb sb lb B : Nat} {w w2 w3 : World} {S R L : Array Value} {N : Option Obj} {C : List Value} {v3 : Value} (M2 : Mid nb sb lb w S R L N w2) (hnb : nb < w.heap.size) (hsb : sb < w.heap.size) (hlb : lb < w.heap.size) (h1 : nb ≠ sb) (h2 : nb ≠ lb) (h3 : sb ≠ lb)
    (cl2 : w2.cell? ⟨lb, 0, none⟩ = some (.slice none 0 0)) (fl2 : w2.frozen? ⟨lb, 0, none⟩ = false) (cs3 : w3.cell? ⟨sb, 0, none⟩ = some v3) (o3 : w3.ownsRow B 48 5 v3 (0 + 1) ([] ++ C))
    (p1 : w3.os = w2.os) (p2 : w3.tape = w2.tape) (p3 : w3.output = w2.output) (hz3 : w2.heap.size ≤ w3.heap.size) (hb3 : ∀ k, k < w2.heap.size → k ≠ sb → some k ≠ (Value.slice none 0 0).ownBlock → w3.heap[k]? = w2.heap[k]?) :
    Mid nb sb lb w S R L N w3 ∧ (∃ vs, w3.cell? ⟨sb, 0, none⟩ = some vs ∧ w3.ownsRow B 48 5 vs (if false then 0 else 1) (if false then [] else C)) ∧ w3.cell? ⟨lb, 0, none⟩ = some (.slice none 0 0) ∧ w3.frozen? ⟨lb, 0, none⟩ = false := by
  have hb : ∀ k, k < w2.heap.size → k ≠ sb → w3.heap[k]? = w2.heap[k]? := fun k hk hs => hb3 k hk hs (by simp [Value.ownBlock])
  have hz := M2.size
  refine ⟨M2.step hnb h1 h2 hsb hlb (fun k hk k1 _ => hb k (by omega) k1) hz3 ⟨p1, p2, p3⟩, ⟨v3, cs3, by simpa using o3⟩, ?_, ?_⟩
  · exact (World.cell?_of_block (a := ⟨lb, 0, none⟩) (hb lb (by omega) h3.symm)).trans cl2
  · exact (World.frozen?_of_block (a := ⟨lb, 0, none⟩) (hb lb (by omega) h3.symm)).trans fl2

/-- One leadership more is told. -/
theorem lead_rel {nb sb lb B n m : Nat} {w w2 w3 : World} {S R L : Array Value} {N : Option Obj} {X Y : List Value} {v2 vs : Value} (M2 : Mid nb sb lb w S R L N w2) (hnb : nb < w.heap.size) (hsb : sb < w.heap.size) (hlb : lb < w.heap.size) (h1 : nb ≠ sb) (h2 : nb ≠ lb) (h3 : sb ≠ lb) (hB : w.heap.size + 3 ≤ B)
    (cs2 : w2.cell? ⟨sb, 0, none⟩ = some vs) (os2 : w2.ownsRow B 48 5 vs m Y) (o2 : w2.ownsRow B 56 5 v2 n X) 
    (p1 : w3.os = w2.os) (p2 : w3.tape = w2.tape) (p3 : w3.output = w2.output) (hz3 : w2.heap.size ≤ w3.heap.size) (hb3 : ∀ k, k < w2.heap.size → k ≠ lb → some k ≠ v2.ownBlock → w3.heap[k]? = w2.heap[k]?) :
    Mid nb sb lb w S R L N w3 ∧ w3.cell? ⟨sb, 0, none⟩ = some vs ∧ w3.ownsRow B 48 5 vs m Y := by
  have hz := M2.size
  have hlow : ∀ k, k < B → some k ≠ v2.ownBlock := fun k hk e => by have := (o2.lt k e.symm).1; omega
  refine ⟨M2.step hnb h1 h2 hsb hlb (fun k hk _ k2 => hb3 k (by omega) k2 (hlow k (by omega))) hz3 ⟨p1, p2, p3⟩, ?_, ?_⟩
  · exact (World.cell?_of_block (a := ⟨sb, 0, none⟩) (hb3 sb (by omega) h3 (hlow sb (by omega)))).trans cs2
  · refine own_keep os2 fun k hk => hb3 k (os2.lt k hk).2 ?_ (own_ne os2 o2 k hk)
    have := (os2.lt k hk).1
    omega

theorem publish_end {nb sb lb B m n : Nat} {w w2 wx : World} {S R L : Array Value} {Y X : List Value} {vs vl : Value} (M : Mid nb sb lb w S R L w2.heap[nb]? wx) (hB : w.heap.size + 3 ≤ B) (cs : wx.cell? ⟨sb, 0, none⟩ = some vs) (os : wx.ownsRow B 48 5 vs m Y) (cl : wx.cell? ⟨lb, 0, none⟩ = some vl) (ol : wx.ownsRow B 56 5 vl n X) :
    But [nb, sb, lb] w wx ∧ (∀ o, wx.cell? ⟨nb, o, none⟩ = w2.cell? ⟨nb, o, none⟩) ∧ (∃ vs, wx.cell? ⟨sb, 0, none⟩ = some vs ∧ wx.ownsRow w.heap.size 48 5 vs m Y) ∧ (∃ vl, wx.cell? ⟨lb, 0, none⟩ = some vl ∧ wx.ownsRow w.heap.size 56 5 vl n X) := by
  have hz := M.size
  refine ⟨⟨M.os, M.tape, M.output, by omega, fun k hk hs => ?_⟩, M.node, ⟨vs, cs, own_base os (by omega)⟩, ⟨vl, cl, own_base ol (by omega)⟩⟩
  simp at hs
  exact M.old k hk hs.1 hs.2.1 hs.2.2

theorem k8f (w : World) (fn : Fn) (a b : Array Value) : Sem.run Yba.prog (binOp BinOp.neq 32 (.func fn a b) .nilFunc) w = .ok (.bool true) w := by kernel_rfl
theorem k8n (w : World) : Sem.run Yba.prog (binOp BinOp.neq 32 .nilFunc .nilFunc) w = .ok (.bool false) w := by kernel_rfl
theorem k9f (w : World) (fn : Fn) (a b : Array Value) : Sem.run Yba.prog (binOp BinOp.eql 33 (.func fn a b) .nilFunc) w = .ok (.bool false) w := by kernel_rfl
theorem k9n (w : World) : Sem.run Yba.prog (binOp BinOp.eql 33 .nilFunc .nilFunc) w = .ok (.bool true) w := by kernel_rfl

def fsOf (ds : Bool) (sb : Nat) : Value := if ds then .nilFunc else .func (.func 13) #[] #[.pointer (some ⟨sb, 0, none⟩)]
def flOf (dl : Bool) (lb : Nat) : Value := if dl then .nilFunc else .func (.func 14) #[] #[.pointer (some ⟨lb, 0, none⟩)]
def stN (ds : Bool) : Nat := if ds then 0 else 1
def stC (ds : Bool) (i rs ts ls po : Int) : List Value := if ds then [] else [.int .u64 i, .int .u8 rs, .int .u64 ts, .int .u64 ls, .int .u64 po]
def leadN (dl e b : Bool) : Nat := if dl then 0 else (if e then 1 else 0) + (if b then 1 else 0)
def leadC (dl e b : Bool) (tO ts wl ex : Int) : List Value := if dl then [] else (if e then [.bool false, .int .u64 tO, .int .u64 wl, .int .i64 ex, .pointer none] else []) ++ (if b then [.bool true, .int .u64 ts, .int .u64 0, .int .i64 0, .pointer none] else [])

theorem leadN_le (e : Bool) : leadN false e false ≤ 4 := by cases e <;> decide
theorem leadN_snoc (e : Bool) : leadN false e false + 1 = leadN false e true := by cases e <;> rfl
theorem leadC_snoc (e : Bool) (tO ts wl ex : Int) : leadC false e false tO ts wl ex ++ [.bool true, .int .u64 ts, .int .u64 0, .int .i64 0, .pointer none] = leadC false e true tO ts wl ex := by cases e <;> rfl
theorem k8 (w : World) (ds : Bool) (sb : Nat) : Sem.run Yba.prog (binOp BinOp.neq 32 (fsOf ds sb) .nilFunc) w = .ok (.bool (!ds)) w := by cases ds; exact k8f _ _ _ _; exact k8n _
theorem k9 (w : World) (dl : Bool) (lb : Nat) : Sem.run Yba.prog (binOp BinOp.eql 33 (flOf dl lb) .nilFunc) w = .ok (.bool dl) w := by cases dl; exact k9f _ _ _ _; exact k9n _

theorem kg8 (t : TypeId) (x y : Operand) (ds : Bool) (sb : Nat) : eqGuard BinOp.neq t x y (fsOf ds sb) .nilFunc = pure () := by cases ds <;> rfl
theorem kg9 (t : TypeId) (x y : Operand) (dl : Bool) (lb : Nat) : eqGuard BinOp.eql t x y (flOf dl lb) .nilFunc = pure () := by cases dl <;> rfl

set_option maxRecDepth 20000 in
set_option maxHeartbeats 1000000 in
theorem publish_any (ds dl : Bool) (nb sb lb : Nat) (i ro tO lo po rs ts ls ps ch lsh kn wl ex : Int) (w : World) (hnb : nb < w.heap.size) (hsb : sb < w.heap.size) (hlb : lb < w.heap.size) (h1 : nb ≠ sb) (h2 : nb ≠ lb) (h3 : sb ≠ lb)
    (c8 : w.cell? ⟨nb, 8, none⟩ = some (fsOf ds sb)) (c9 : w.cell? ⟨nb, 9, none⟩ = some (flOf dl lb)) (c26 : w.cell? ⟨nb, 26, none⟩ = some (.int .i32 0))
    (c29 : w.cell? ⟨nb, 29, none⟩ = some (.int .u64 i)) (c30 : w.cell? ⟨nb, 30, none⟩ = some (.int .u8 ro)) (c31 : w.cell? ⟨nb, 31, none⟩ = some (.int .u64 tO)) (c32 : w.cell? ⟨nb, 32, none⟩ = some (.int .u64 lo)) (c33 : w.cell? ⟨nb, 33, none⟩ = some (.int .u64 po))
    (c39 : w.cell? ⟨nb, 39, none⟩ = some (.int .u64 ch)) (c41 : w.cell? ⟨nb, 41, none⟩ = some (.int .u64 lsh)) (c44 : w.cell? ⟨nb, 44, none⟩ = some (.int .u64 kn)) (f : ∀ o, w.frozen? ⟨nb, o, none⟩ = false)
    (cs : w.cell? ⟨sb, 0, none⟩ = some (.slice none 0 0)) (cl : w.cell? ⟨lb, 0, none⟩ = some (.slice none 0 0)) (fs : w.frozen? ⟨sb, 0, none⟩ = false) (fl : w.frozen? ⟨lb, 0, none⟩ = false) :
    Calls Yba.prog 15 #[.pointer (some ⟨nb, 0, none⟩), .agg #[.int .u64 i, .int .u8 rs, .int .u64 ts, .int .u64 ls, .int .u64 ps], .agg #[.int .u64 wl, .int .i64 ex, .pointer none]] w
      fun e w' => e = .returned (.tuple #[]) ∧ But [nb, sb, lb] w w' ∧
        (w'.cell? ⟨nb, 29, none⟩ = some (.int .u64 i) ∧ w'.cell? ⟨nb, 30, none⟩ = some (.int .u8 rs) ∧ w'.cell? ⟨nb, 31, none⟩ = some (.int .u64 ts) ∧ w'.cell? ⟨nb, 32, none⟩ = some (.int .u64 ls) ∧ w'.cell? ⟨nb, 33, none⟩ = some (.int .u64 po)) ∧
        (w'.cell? ⟨nb, 39, none⟩ = some (.int .u64 (chOf ch kn ls)) ∧ w'.cell? ⟨nb, 41, none⟩ = some (.int .u64 (lsOf lsh (endsB rs ts ro tO))) ∧ w'.cell? ⟨nb, 44, none⟩ = some (.int .u64 (knOf kn ls))) ∧
        (∃ vs, w'.cell? ⟨sb, 0, none⟩ = some vs ∧ w'.ownsRow w.heap.size 48 5 vs (stN ds) (stC ds i rs ts ls po)) ∧
        (∃ vl, w'.cell? ⟨lb, 0, none⟩ = some vl ∧ w'.ownsRow w.heap.size 56 5 vl (leadN dl (endsB ro tO rs ts) (endsB rs ts ro tO)) (leadC dl (endsB ro tO rs ts) (endsB rs ts ro tO) tO ts wl ex)) := by
  have hcA : ∀ a b o, ((w.alloc a).alloc b).cell? ⟨nb, o, none⟩ = w.cell? ⟨nb, o, none⟩ := fun a b o => (((Below.refl _ w).alloc (Nat.le_refl _) a).alloc (by simp) b).cell hnb
  have hfA : ∀ a b o, ((w.alloc a).alloc b).frozen? ⟨nb, o, none⟩ = false := fun a b o => ((((Below.refl _ w).alloc (Nat.le_refl _) a).alloc (by simp) b).frozen hnb).trans (f o)
  have hc1 : ∀ (X : World) a o, X.heap.size = w.heap.size → (X.alloc a).cell? ⟨nb, o, none⟩ = X.cell? ⟨nb, o, none⟩ := fun X a o h => ((Below.refl _ X).alloc (Nat.le_refl _) a).cell (by show nb < _; omega)
  have hf1 : ∀ (X : World) a o, X.heap.size = w.heap.size → (X.alloc a).frozen? ⟨nb, o, none⟩ = X.frozen? ⟨nb, o, none⟩ := fun X a o h => ((Below.refl _ X).alloc (Nat.le_refl _) a).frozen (by show nb < _; omega)
  have hc2 : ∀ (X : World) a b o, X.heap.size = w.heap.size → ((X.alloc a).alloc b).cell? ⟨nb, o, none⟩ = X.cell? ⟨nb, o, none⟩ := fun X a b o h => (((Below.refl _ X).alloc (Nat.le_refl _) a).alloc (by simp) b).cell (by show nb < _; omega)
  have hf2 : ∀ (X : World) a b o, X.heap.size = w.heap.size → ((X.alloc a).alloc b).frozen? ⟨nb, o, none⟩ = X.frozen? ⟨nb, o, none⟩ := fun X a b o h => (((Below.refl _ X).alloc (Nat.le_refl _) a).alloc (by simp) b).frozen (by show nb < _; omega)
  have hc3 : ∀ (X : World) a b c o, X.heap.size = w.heap.size → (((X.alloc a).alloc b).alloc c).cell? ⟨nb, o, none⟩ = X.cell? ⟨nb, o, none⟩ := fun X a b c o h => ((((Below.refl _ X).alloc (Nat.le_refl _) a).alloc (by simp) b).alloc (by simp; omega) c).cell (by show nb < _; omega)
  have hf3 : ∀ (X : World) a b c o, X.heap.size = w.heap.size → (((X.alloc a).alloc b).alloc c).frozen? ⟨nb, o, none⟩ = X.frozen? ⟨nb, o, none⟩ := fun X a b c o h => ((((Below.refl _ X).alloc (Nat.le_refl _) a).alloc (by simp) b).alloc (by simp; omega) c).frozen (by show nb < _; omega)
  go_enter Yba.func15, Yba.ntmps15
  go_wp2_with (go_at_call 24; refine (lock_free Yba.muLib ⟨nb, 26, none⟩ _ ((hcA _ _ _).trans c26) (hfA _ _ _)).mono ?_; rintro e w' ⟨rfl, rfl⟩)
  refine (count_any nb i ro tO lo po i rs ts ls po ch lsh kn _ (by simp; omega) (by simp [hc3, cell_set, c39]) (by simp [hc3, cell_set, c41]) (by simp [hc3, cell_set, c44]) (by intro o; simp [hf3, f])).mono ?_
  rintro e w1 ⟨rfl, d39, d41, d44, dO, dF, dB⟩
  have n8 : w1.cell? ⟨nb, 8, none⟩ = some (fsOf ds sb) := (dO 8 (by omega) (by omega) (by omega)).trans (by simp [hc3, cell_set, c8])
  have n9 : w1.cell? ⟨nb, 9, none⟩ = some (flOf dl lb) := (dO 9 (by omega) (by omega) (by omega)).trans (by simp [hc3, cell_set, c9])
  have n26 : w1.cell? ⟨nb, 26, none⟩ = some (.int .i32 1) := (dO 26 (by omega) (by omega) (by omega)).trans (by simp [hc3, cell_set, cell_set, c26])
  have n29 : w1.cell? ⟨nb, 29, none⟩ = some (.int .u64 i) := (dO 29 (by omega) (by omega) (by omega)).trans (by simp [hc3, cell_set, cell_set, c29])
  have n30 : w1.cell? ⟨nb, 30, none⟩ = some (.int .u8 rs) := (dO 30 (by omega) (by omega) (by omega)).trans (by simp [hc3, cell_set, cell_set, c30])
  have n31 : w1.cell? ⟨nb, 31, none⟩ = some (.int .u64 ts) := (dO 31 (by omega) (by omega) (by omega)).trans (by simp [hc3, cell_set, cell_set, c31])
  have n32 : w1.cell? ⟨nb, 32, none⟩ = some (.int .u64 ls) := (dO 32 (by omega) (by omega) (by omega)).trans (by simp [hc3, cell_set, cell_set, c32])
  have n33 : w1.cell? ⟨nb, 33, none⟩ = some (.int .u64 po) := (dO 33 (by omega) (by omega) (by omega)).trans (by simp [hc3, cell_set, cell_set, c33])
  obtain ⟨q0, q1, q2, q4, qB⟩ := pre_blocks w _ _ _ nb hnb _ _ _ _ _ _ _ _ _ _ _ _ _ rfl
  have b0 := (dB.block w.heap.size (by rw [q4]; omega) (by simp; omega)).trans q0
  have b1 := (dB.block (w.heap.size + 1) (by rw [q4]; omega) (by simp; omega)).trans q1
  have b2 := (dB.block (w.heap.size + 1 + 1) (by rw [q4]; omega) (by simp; omega)).trans q2
  have bO : ∀ k, k < w.heap.size → k ≠ nb → w1.heap[k]? = w.heap[k]? := fun k hk hne => (dB.block k (by rw [q4]; omega) (by simpa using hne)).trans (qB.block k hk (by simpa using hne))
  have hsz : w.heap.size + 3 ≤ w1.heap.size := by have := dB.size; rw [q4] at this; omega
  have hos : w1.os = w.os ∧ w1.tape = w.tape ∧ w1.output = w.output := ⟨dB.os.trans qB.os, dB.tape.trans qB.tape, dB.output.trans qB.output⟩
  clear q0 q1 q2 q4 qB dB dO hcA hfA hc1 hf1 hc2 hf2 hc3 hf3
  go_wp2_with fail
  refine (unlock_held Yba.muLib ⟨nb, 26, none⟩ _ n26 (dF 26)).mono ?_
  rintro e w2' ⟨rfl, hw2⟩
  obtain ⟨w2, e2⟩ : ∃ w2, w2 = w1.setCell ⟨nb, 26, none⟩ (.int .i32 0) := ⟨_, rfl⟩
  rw [← e2] at hw2
  subst hw2
  have g : ∀ o, o ≠ 26 → w2'.cell? ⟨nb, o, none⟩ = w1.cell? ⟨nb, o, none⟩ := fun o ho => by rw [e2, cell_set, if_neg ho]
  have gb : ∀ k, k ≠ nb → w2'.heap[k]? = w1.heap[k]? := fun k hk => by rw [e2]; exact Below.heap_setCell _ _ _ _ hk
  have m8 := (g 8 (by omega)).trans n8
  have m9 := (g 9 (by omega)).trans n9
  have HN : Hid ((w2'.cell? ⟨nb, 29, none⟩ = some (.int .u64 i) ∧ w2'.cell? ⟨nb, 30, none⟩ = some (.int .u8 rs) ∧ w2'.cell? ⟨nb, 31, none⟩ = some (.int .u64 ts) ∧ w2'.cell? ⟨nb, 32, none⟩ = some (.int .u64 ls) ∧ w2'.cell? ⟨nb, 33, none⟩ = some (.int .u64 po)) ∧
        (w2'.cell? ⟨nb, 39, none⟩ = some (.int .u64 (chOf ch kn ls)) ∧ w2'.cell? ⟨nb, 41, none⟩ = some (.int .u64 (lsOf lsh (endsB rs ts ro tO))) ∧ w2'.cell? ⟨nb, 44, none⟩ = some (.int .u64 (knOf kn ls)))) :=
    ⟨⟨(g 29 (by omega)).trans n29, (g 30 (by omega)).trans n30, (g 31 (by omega)).trans n31, (g 32 (by omega)).trans n32, (g 33 (by omega)).trans n33⟩, (g 39 (by omega)).trans d39, (g 41 (by omega)).trans d41, (g 44 (by omega)).trans d44⟩
  have HS : Hid (w2'.heap[w.heap.size]? = some (.cells #[.int .u64 i, .int .u8 rs, .int .u64 ts, .int .u64 ls, .int .u64 po] 48)) := (gb _ (by omega)).trans b0
  have HR : Hid (w2'.heap[w.heap.size + 1]? = some (.cells #[.int .u64 wl, .int .i64 ex, .pointer none] 51)) := (gb _ (by omega)).trans b1
  have HL : Hid (w2'.heap[w.heap.size + 1 + 1]? = some (.cells #[.int .u64 i, .int .u8 ro, .int .u64 tO, .int .u64 lo, .int .u64 po] 48)) := (gb _ (by omega)).trans b2
  have HB : Hid (∀ k, k < w.heap.size → k ≠ nb → w2'.heap[k]? = w.heap[k]?) := fun k hk hne => (gb k hne).trans (bO k hk hne)
  have hz2 : w.heap.size + 3 ≤ w2'.heap.size := by rw [e2]; simpa [World.setCell] using hsz
  have HW : Hid (w2'.os = w.os ∧ w2'.tape = w.tape ∧ w2'.output = w.output) := by rw [e2]; exact hos
  have M2 : Hid (Mid nb sb lb w #[.int .u64 i, .int .u8 rs, .int .u64 ts, .int .u64 ls, .int .u64 po] #[.int .u64 wl, .int .i64 ex, .pointer none] #[.int .u64 i, .int .u8 ro, .int .u64 tO, .int .u64 lo, .int .u64 po] w2'.heap[nb]? w2') :=
    ⟨HS.out, HR.out, HL.out, rfl, fun k hk k1 _ _ => HB.out k hk k1, hz2, HW.out.1, HW.out.2.1, HW.out.2.2⟩
  have cs2 : w2'.cell? ⟨sb, 0, none⟩ = some (.slice none 0 0) := (World.cell?_of_block (a := ⟨sb, 0, none⟩) (HB.out sb hsb h1.symm)).trans cs
  have fs2 : w2'.frozen? ⟨sb, 0, none⟩ = false := (World.frozen?_of_block (a := ⟨sb, 0, none⟩) (HB.out sb hsb h1.symm)).trans fs
  have cl2 : w2'.cell? ⟨lb, 0, none⟩ = some (.slice none 0 0) := (World.cell?_of_block (a := ⟨lb, 0, none⟩) (HB.out lb hlb h2.symm)).trans cl
  have fl2 : w2'.frozen? ⟨lb, 0, none⟩ = false := (World.frozen?_of_block (a := ⟨lb, 0, none⟩) (HB.out lb hlb h2.symm)).trans fl
  clear HS HR HL HB HW
  clear g gb n8 n9 n26 n29 n30 n31 n32 n33 d39 d41 d44 b0 b1 b2 bO hos e2 dF hsz c8 c9 c26 c29 c30 c31 c32 c33 c39 c41 c44
  clear cs cl fs fl f
  have k8 := k8
  have kg8 := kg8
  have kg9 := kg9
  have k9 := k9
  have HF : Hid (fsOf true sb = .nilFunc ∧ fsOf false sb = .func (.func 13) #[] #[.pointer (some ⟨sb, 0, none⟩)] ∧ flOf true lb = .nilFunc ∧ flOf false lb = .func (.func 14) #[] #[.pointer (some ⟨lb, 0, none⟩)]) := ⟨rfl, rfl, rfl, rfl⟩
  have hz2' := hz2
  obtain ⟨B, hB⟩ : ∃ B, B = w.heap.size + 3 := ⟨_, rfl⟩
  have HBe : Hid (B = w.heap.size + 3) := hB
  have hB1 : B ≤ w2'.heap.size := by omega
  have hB2 : w.heap.size + 3 ≤ B := by omega
  have hB3 : B ≤ w.heap.size + 3 := by omega
  clear hB hz2
  go_upto_if 35 with fail
  go_cut [] (fun wx => Mid nb sb lb w #[.int .u64 i, .int .u8 rs, .int .u64 ts, .int .u64 ls, .int .u64 po] #[.int .u64 wl, .int .i64 ex, .pointer none] #[.int .u64 i, .int .u8 ro, .int .u64 tO, .int .u64 lo, .int .u64 po] w2'.heap[nb]? wx ∧ (∃ vs, wx.cell? ⟨sb, 0, none⟩ = some vs ∧ wx.ownsRow B 48 5 vs (stN ds) (stC ds i rs ts ls po)) ∧ wx.cell? ⟨lb, 0, none⟩ = some (.slice none 0 0) ∧ wx.frozen? ⟨lb, 0, none⟩ = false)
  case first =>
    cases ds
    · rw [HF.out.2.1] at m8
      obtain ⟨sC, rC, oC⟩ := M2.out.cells
      go_wp2_with fail
      go_region_with (go_at_call 13; refine (tell_status sb B 0 i rs ts ls po _ [] _ (by omega) (by simpa using hB1) (by omega) (by simpa using cs2) (by simpa using fs2) (World.ownsRow_nil _ _ _ _)).mono ?_; rintro e w3 ⟨rfl, v3, cs3, fs3, o3, p1, p2, p3, hz3, hb3⟩)
      all_goals
        go_wp2_with fail
        go_meet
        case rel => exact status_rel (C := [.int .u64 i, .int .u8 rs, .int .u64 ts, .int .u64 ls, .int .u64 po]) M2.out hnb hsb hlb h1 h2 h3 cl2 fl2 cs3 o3 p1 p2 p3 hz3 hb3
    · rw [HF.out.1] at m8
      go_wp2_with fail
      go_meet
      case rel => exact ⟨M2.out, ⟨_, cs2, World.ownsRow_nil _ _ _ _⟩, cl2, fl2⟩
  case rest =>
    obtain ⟨M3, ⟨vs, cs3, os3⟩, cl3, fl3⟩ := hcut
    have m9' := (M3.node 9).trans m9
    have HM3 : Hid (Mid nb sb lb w #[.int .u64 i, .int .u8 rs, .int .u64 ts, .int .u64 ls, .int .u64 po] #[.int .u64 wl, .int .i64 ex, .pointer none] #[.int .u64 i, .int .u8 ro, .int .u64 tO, .int .u64 lo, .int .u64 po] w2'.heap[nb]? wc) := M3
    have HS3 : Hid (wc.cell? ⟨sb, 0, none⟩ = some vs ∧ wc.ownsRow B 48 5 vs (stN ds) (stC ds i rs ts ls po)) := ⟨cs3, os3⟩
    have HM9 : Hid (w2'.cell? ⟨nb, 9, none⟩ = some (flOf dl lb)) := m9
    clear M3 cs3 os3 M2 m8 m9 cs2 fs2 cl2 fl2 hB1 hz2'
    cases dl
    · rw [HF.out.2.2.2] at m9'
      have HM9' : Hid (w2'.cell? ⟨nb, 9, none⟩ = some (.func (.func 14) #[] #[.pointer (some ⟨lb, 0, none⟩)])) := HM9.out.trans (by rw [HF.out.2.2.2])
      have k9f := k9f
      obtain ⟨sC, rC, oC⟩ := HM3.out.cells
      go_upto_if 51 with (go_at_call 27; refine (ends_any _ _ _ _ _ _ _ _ _ _ _).mono ?_; rintro e w' ⟨rfl, rfl⟩)
      go_cut [] (fun wx => Mid nb sb lb w #[.int .u64 i, .int .u8 rs, .int .u64 ts, .int .u64 ls, .int .u64 po] #[.int .u64 wl, .int .i64 ex, .pointer none] #[.int .u64 i, .int .u8 ro, .int .u64 tO, .int .u64 lo, .int .u64 po] w2'.heap[nb]? wx ∧ (wx.cell? ⟨sb, 0, none⟩ = some vs ∧ wx.ownsRow B 48 5 vs (stN ds) (stC ds i rs ts ls po)) ∧ ∃ vl, wx.cell? ⟨lb, 0, none⟩ = some vl ∧ wx.frozen? ⟨lb, 0, none⟩ = false ∧ wx.ownsRow B 56 5 vl (leadN false (endsB ro tO rs ts) false) (leadC false (endsB ro tO rs ts) false tO ts wl ex))
      case first =>
        have M4 : ∀ a b, Mid nb sb lb w #[.int .u64 i, .int .u8 rs, .int .u64 ts, .int .u64 ls, .int .u64 po] #[.int .u64 wl, .int .i64 ex, .pointer none] #[.int .u64 i, .int .u8 ro, .int .u64 tO, .int .u64 lo, .int .u64 po] w2'.heap[nb]? ((wc.alloc a).alloc b) := fun a b => (HM3.out.alloc hnb h1 h2 hsb hlb a).alloc hnb h1 h2 hsb hlb b
        have bel : ∀ a b, Below wc.heap.size wc ((wc.alloc a).alloc b) := fun a b => ((Below.refl _ _).alloc (Nat.le_refl _) a).alloc (by simp) b
        have hzc := HM3.out.size
        have m9A : ∀ a b, ((wc.alloc a).alloc b).cell? ⟨nb, 9, none⟩ = some (.func (.func 14) #[] #[.pointer (some ⟨lb, 0, none⟩)]) := fun a b => ((bel a b).cell (p := ⟨nb, 9, none⟩) (by show nb < _; omega)).trans m9'
        have clA : ∀ a b, ((wc.alloc a).alloc b).cell? ⟨lb, 0, none⟩ = some (.slice none 0 0) := fun a b => ((bel a b).cell (p := ⟨lb, 0, none⟩) (by show lb < _; omega)).trans cl3
        have flA : ∀ a b, ((wc.alloc a).alloc b).frozen? ⟨lb, 0, none⟩ = false := fun a b => ((bel a b).frozen (p := ⟨lb, 0, none⟩) (by show lb < _; omega)).trans fl3
        have HSA : Hid (∀ a b, ((wc.alloc a).alloc b).cell? ⟨sb, 0, none⟩ = some vs ∧ ((wc.alloc a).alloc b).ownsRow B 48 5 vs (stN ds) (stC ds i rs ts ls po)) := fun a b => ⟨((bel a b).cell (p := ⟨sb, 0, none⟩) (by show sb < _; omega)).trans HS3.out.1, (HS3.out.2.alloc a).alloc b⟩
        have rA : ∀ a b o, ((wc.alloc a).alloc b).cell? ⟨w.heap.size + 1, o, none⟩ = (#[.int .u64 wl, .int .i64 ex, .pointer none] : Array Value)[o]? := fun a b => (M4 a b).cells.2.1
        have oA : ∀ a b o, ((wc.alloc a).alloc b).cell? ⟨w.heap.size + 1 + 1, o, none⟩ = (#[.int .u64 i, .int .u8 ro, .int .u64 tO, .int .u64 lo, .int .u64 po] : Array Value)[o]? := fun a b => (M4 a b).cells.2.2
        have HM4 : Hid (∀ a b, Mid nb sb lb w #[.int .u64 i, .int .u8 rs, .int .u64 ts, .int .u64 ls, .int .u64 po] #[.int .u64 wl, .int .i64 ex, .pointer none] #[.int .u64 i, .int .u8 ro, .int .u64 tO, .int .u64 lo, .int .u64 po] w2'.heap[nb]? ((wc.alloc a).alloc b)) := M4
        have hlB : lb < B := by omega
        clear M4 bel sC rC oC
        cases he : endsB ro tO rs ts
        · go_wp2_with fail
          go_meet
          case rel => exact ⟨HM4.out _ _, HSA.out _ _, _, clA _ _, flA _ _, by rw [he]; exact World.ownsRow_nil _ _ _ _⟩
        · go_wp2_with fail
          go_region_with (go_at_call 14; refine (tell_lead lb B 0 false tO wl ex _ [] _ (by omega) (by simp; omega) hlB (by simpa using clA _ _) (by simpa using flA _ _) (World.ownsRow_nil _ _ _ _)).mono ?_; rintro e w5 ⟨rfl, v5, cl5, fl5, o5, p1, p2, p3, hz5, hb5⟩)
          all_goals
            go_wp2_with fail
            go_meet
            case rel =>
              obtain ⟨a1, a2, a3⟩ := lead_rel (HM4.out _ _) hnb hsb hlb h1 h2 h3 hB2 (HSA.out _ _).1 (HSA.out _ _).2 (World.ownsRow_nil _ B 56 5) p1 p2 p3 hz5 hb5
              exact ⟨a1, ⟨a2, a3⟩, v5, cl5, fl5, by rw [he]; exact o5⟩
      case rest =>
        clear cl3 fl3 HM3 HS3 m9' sC rC oC HM9
        obtain ⟨M4, S4, vl, cl4, fl4, ol4⟩ := hcut
        have m9' := (M4.node 9).trans HM9'.out
        have HM5 : Hid (Mid nb sb lb w #[.int .u64 i, .int .u8 rs, .int .u64 ts, .int .u64 ls, .int .u64 po] #[.int .u64 wl, .int .i64 ex, .pointer none] #[.int .u64 i, .int .u8 ro, .int .u64 tO, .int .u64 lo, .int .u64 po] w2'.heap[nb]? wc) := M4
        have HS5 : Hid (wc.cell? ⟨sb, 0, none⟩ = some vs ∧ wc.ownsRow B 48 5 vs (stN ds) (stC ds i rs ts ls po)) := S4
        have HL5 : Hid (wc.ownsRow B 56 5 vl (leadN false (endsB ro tO rs ts) false) (leadC false (endsB ro tO rs ts) false tO ts wl ex)) := ol4
        clear M4 S4 ol4 HM9'
        obtain ⟨sC, rC, oC⟩ := HM5.out.cells
        go_upto_if 64 with (go_at_call 27; refine (ends_any _ _ _ _ _ _ _ _ _ _ _).mono ?_; rintro e w' ⟨rfl, rfl⟩)
        have M4 : ∀ a b, Mid nb sb lb w #[.int .u64 i, .int .u8 rs, .int .u64 ts, .int .u64 ls, .int .u64 po] #[.int .u64 wl, .int .i64 ex, .pointer none] #[.int .u64 i, .int .u8 ro, .int .u64 tO, .int .u64 lo, .int .u64 po] w2'.heap[nb]? ((wc.alloc a).alloc b) := fun a b => (HM5.out.alloc hnb h1 h2 hsb hlb a).alloc hnb h1 h2 hsb hlb b
        have bel : ∀ a b, Below wc.heap.size wc ((wc.alloc a).alloc b) := fun a b => ((Below.refl _ _).alloc (Nat.le_refl _) a).alloc (by simp) b
        have hzc := HM5.out.size
        have m9A : ∀ a b, ((wc.alloc a).alloc b).cell? ⟨nb, 9, none⟩ = some (.func (.func 14) #[] #[.pointer (some ⟨lb, 0, none⟩)]) := fun a b => ((bel a b).cell (p := ⟨nb, 9, none⟩) (by show nb < _; omega)).trans m9'
        have clA : ∀ a b, ((wc.alloc a).alloc b).cell? ⟨lb, 0, none⟩ = some vl := fun a b => ((bel a b).cell (p := ⟨lb, 0, none⟩) (by show lb < _; omega)).trans cl4
        have flA : ∀ a b, ((wc.alloc a).alloc b).frozen? ⟨lb, 0, none⟩ = false := fun a b => ((bel a b).frozen (p := ⟨lb, 0, none⟩) (by show lb < _; omega)).trans fl4
        have HSA : Hid (∀ a b, ((wc.alloc a).alloc b).cell? ⟨sb, 0, none⟩ = some vs ∧ ((wc.alloc a).alloc b).ownsRow B 48 5 vs (stN ds) (stC ds i rs ts ls po)) := fun a b => ⟨((bel a b).cell (p := ⟨sb, 0, none⟩) (by show sb < _; omega)).trans HS5.out.1, (HS5.out.2.alloc a).alloc b⟩
        have HLA : Hid (∀ a b, ((wc.alloc a).alloc b).ownsRow B 56 5 vl (leadN false (endsB ro tO rs ts) false) (leadC false (endsB ro tO rs ts) false tO ts wl ex)) := fun a b => (HL5.out.alloc a).alloc b
        have sA : ∀ a b o, ((wc.alloc a).alloc b).cell? ⟨w.heap.size, o, none⟩ = (#[.int .u64 i, .int .u8 rs, .int .u64 ts, .int .u64 ls, .int .u64 po] : Array Value)[o]? := fun a b => (M4 a b).cells.1
        have HM6 : Hid (∀ a b, Mid nb sb lb w #[.int .u64 i, .int .u8 rs, .int .u64 ts, .int .u64 ls, .int .u64 po] #[.int .u64 wl, .int .i64 ex, .pointer none] #[.int .u64 i, .int .u8 ro, .int .u64 tO, .int .u64 lo, .int .u64 po] w2'.heap[nb]? ((wc.alloc a).alloc b)) := M4
        have hlB : lb < B := by omega
        have hN : leadN false (endsB ro tO rs ts) false ≤ 4 := leadN_le _
        clear M4 bel sC rC oC
        cases hb : endsB rs ts ro tO
        · go_wp2_with fail
          go_end0
          obtain ⟨e1, e2, e3, e4⟩ := publish_end (HM6.out _ _) hB2 (HSA.out _ _).1 (HSA.out _ _).2 (clA _ _) (HLA.out _ _)
          refine ⟨rfl, e1, ?_, ?_, e3, by rw [hb]; exact e4⟩
          · simp only [e2]; exact HN.out.1
          · simp only [e2]; exact HN.out.2
        · go_wp2_with fail
          go_region_with (go_at_call 14; refine (tell_lead lb B _ true ts 0 0 vl _ _ hN (by simp; omega) hlB (by simpa using clA _ _) (by simpa using flA _ _) (by exact HLA.out _ _)).mono ?_; rintro e w5 ⟨rfl, v5, cl5, fl5, o5, p1, p2, p3, hz5, hb5⟩)
          all_goals
            go_wp2_with fail
            go_end0
            obtain ⟨a1, a2, a3⟩ := lead_rel (HM6.out _ _) hnb hsb hlb h1 h2 h3 hB2 (HSA.out _ _).1 (HSA.out _ _).2 (HLA.out _ _) p1 p2 p3 hz5 hb5
            obtain ⟨e1, e2, e3, e4⟩ := publish_end a1 hB2 a2 a3 cl5 o5
            refine ⟨rfl, e1, ?_, ?_, e3, ?_⟩
            · simp only [e2]; exact HN.out.1
            · simp only [e2]; exact HN.out.2
            · rw [leadN_snoc, leadC_snoc] at e4; rw [hb]; exact e4
    · go_wp2_with fail
      refine bodyPost_ret (results_none rfl _ _ _) rfl ?_
      obtain ⟨e1, e2, e3, e4⟩ := publish_end HM3.out hB2 HS3.out.1 HS3.out.2 cl3 (World.ownsRow_nil _ B 56 5)
      refine ⟨rfl, e1, ?_, ?_, e3, ?_⟩
      · simp only [e2]; exact HN.out.1
      · simp only [e2]; exact HN.out.2
      · simpa [leadN, leadC] using e4
end Go.Proofs.Ybulkbfme
