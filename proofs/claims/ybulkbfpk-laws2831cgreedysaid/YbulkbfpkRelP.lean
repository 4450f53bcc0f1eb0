import Derived.Test.YbulkbfpkRel
namespace Go.Proofs.Ybulkbfpk
open Go.RowKit Go.Shelf
attribute [local go_sem] Oper.semAt_some
set_option linter.unusedSimpArgs false
def unmL (Q : Dat) (us : Nat → Bool) (ts : List Nat) : Nat → Bool := ts.foldl (fun u t => unmarkF u (Q.nf t) (Q.m t)) us
theorem unmL_snoc (Q : Dat) (us : Nat → Bool) (ts : List Nat) (t : Nat) : unmL Q us (ts ++ [t]) = unmarkF (unmL Q us ts) (Q.nf t) (Q.m t) := by simp [unmL]
/-- The allocations of the jobs ts hold their nodes. -/
def Alc (Q : Dat) (D : Bk) (ap : Nat → Value) (w : World) (ts : List Nat) : Prop := ∀ t, t ∈ ts → Nds (ap t) (Q.m t) (Q.nf t) w ∧ ∀ b, (ap t).ownBlock = some b → D.B ≤ b
theorem Nds.but {v : Value} {m : Nat} {f : Nat → Nat} {PL : Nat} {w w' : World} (h : Nds v m f w) (hne : v.ownBlock ≠ some PL) (hb : But [PL] w w') : Nds v m f w' := by
  refine ⟨h.lt, h.m1, h.ex.imp id ?_⟩
  rintro ⟨g, c, rfl, hc⟩
  exact ⟨g, c, rfl, fun i hi => hb.cell (by simp only [List.mem_singleton]; intro e; exact hne (by rw [e]; rfl)) (hc i hi)⟩
theorem Nds.buts {v : Value} {m : Nat} {f : Nat → Nat} {S : List Nat} {B : Nat} {w w' : World} (h : Nds v m f w) (hg : ∀ b, v.ownBlock = some b → B ≤ b) (hb : But S w w') (hS : ∀ k, k ∈ S → k < B) : Nds v m f w' := by
  refine ⟨h.lt, h.m1, h.ex.imp id ?_⟩
  rintro ⟨g, c, rfl, hc⟩
  have := hg g rfl
  exact ⟨g, c, rfl, fun i hi => hb.cell (fun e => by have := hS g e; omega) (hc i hi)⟩
theorem Kq.of_but {PL n₀ : Nat} {W w' : World} (h : But [PL] W w') (hn : n₀ ≤ W.heap.size) : Kq PL n₀ W w' := fun k hk hp => h.block k (by omega) (by simpa using hp)
theorem keepsO {PL : Nat} {us : Nat → Bool} {W w' : World} (h : But [PL] W w') (hp : Pol PL us W) : KeepsOthers W w' := by
  refine ⟨h.size, fun k o ho hc => (h.block k (lt_of_block ho) ?_).trans ho⟩
  simp only [List.mem_singleton]
  intro e
  subst e
  have h0 := hp.us 0 (by decide)
  cases o with
  | cells => simp [Obj.isCells] at hc
  | _ => simp [World.cell?, ho] at h0
/-- An element that came: of the pending jobs. -/
abbrev Elt (ps : List Nat) : Type := { x : Nat × Nat // ps = [] ∨ x.2 ∈ ps }
def eltAt (ps : List Nat) (k : Nat) : Elt ps :=
  if h : ps.length - 1 - k < ps.length then ⟨(ps.length - 1 - k, ps[ps.length - 1 - k]), .inr (List.getElem_mem h)⟩ else ⟨(0, 0), .inl (List.length_eq_zero_iff.1 (by omega))⟩
theorem eltAt_val {ps : List Nat} {k q : Nat} (h : k + q + 1 = ps.length) : (eltAt ps k).1 = (q, ps[q]'(by omega)) := by
  have e : ps.length - 1 - k = q := by omega
  unfold eltAt
  rw [dif_pos (by omega)]
  simp [e]
theorem elts_rev (ps : List Nat) : (upto (eltAt ps) ps.length).map (fun x => x.1.2) = ps.reverse := by
  apply List.ext_getElem
  · simp [upto]
  · intro i h1 h2
    have hi : i < ps.length := by simpa [upto] using h1
    have e := eltAt_val (ps := ps) (k := i) (q := ps.length - 1 - i) (by omega)
    simp [upto, e]
theorem noOut {α : Type} {Kp : World → World → Prop} {I : List α → World → Prop} {Ix : Code → List α → World → Prop} {xs : List α} {W : World} : ¬ LetsOut (ownPostK Kp I Ix xs W) := fun ⟨_, _, h⟩ => h
set_option maxRecDepth 100000 in
set_option maxHeartbeats 4000000 in
theorem relP (Q : Dat) (D : Bk) (us : Nat → Bool) (ch : Nat → Int) (ps : List Nat) (ap : Nat → Value) (w : World) (h : Dyn Q D us ch ps ap w) (ok : D.Ok Q.n) (ha : Alc Q D ap w ps) :
    Calls Yba.prog 22 #[.pointer (some ⟨D.CB, 0, none⟩)] w fun e w' => e = .returned (.tuple #[]) ∧ Dyn Q D (unmL Q us ps.reverse) ch ps ap w' ∧ But [D.PL] w w' := by
  refine (callsIn_wide (n := 3)).1 ?_
  refine callsIn_of_wp_marks Yba.func22 rfl trivial ?_ rfl
  simp only [Yba.ntmps22, List.size_toArray, List.length_cons, List.length_nil, Nat.reduceAdd, Nat.reduceSub, Array.replicate_succ, Array.replicate_zero, List.push_toArray, List.append_toArray, List.nil_append, List.cons_append]
  refine wpIn_wide.2 ?_
  obtain ⟨v, c5, own⟩ := h.k5
  have hBw := h.hB
  have hcb := ok.b2
  have hpl := ok.b1
  have hlt : D.CB < w.heap.size := by omega
  have HD := hide (show _ ∧ _ from ⟨h, ha⟩)
  have HO := hide own
  have hpn := h.psn
  obtain ⟨sa, sl, sc, hv⟩ : ∃ sa sl sc, v = .slice sa sl sc := by
    rcases own_slice own with ⟨cc, ev, _⟩ | ⟨gg, cc, ev⟩
    · exact ⟨_, _, _, ev⟩
    · exact ⟨_, _, _, ev⟩
  have HV := hide hv
  clear own h ha
  rw [hv] at c5
  clear hv
  go_wp2_with fail
  refine (bw_any _ _ _ _).mono ?_
  rintro e w1 ⟨rfl, rfl⟩
  go_wp2_with fail
  obtain ⟨w1, hw1⟩ : ∃ w1, w1 = (w.alloc (.cells #[.pointer (some ⟨D.CB, 0, none⟩)] 112)).alloc (.cells #[.slice sa sl sc] 23) := ⟨_, rfl⟩
  have s1 : w1.heap.size = w.heap.size + 2 := by rw [hw1]; simp
  have b1 : But [D.PL] w w1 := by rw [hw1]; exact ((But.refl _ _).alloc _).alloc _
  have x0 : w1.cell? ⟨w.heap.size, 0, none⟩ = some (.pointer (some ⟨D.CB, 0, none⟩)) := by
    have : w1.heap[w.heap.size]? = some (.cells #[.pointer (some ⟨D.CB, 0, none⟩)] 112) := by
      rw [hw1, Below.heap_alloc _ _ _ (by simp)]; exact newBlock _ _
    rw [cells_at this]; rfl
  have xs : w1.cell? ⟨w.heap.size + 1, 0, none⟩ = some v := by
    have : w1.heap[w.heap.size + 1]? = some (.cells #[.slice sa sl sc] 23) := by
      rw [hw1]
      have := newBlock (w.alloc (.cells #[.pointer (some ⟨D.CB, 0, none⟩)] 112)) (.cells #[.slice sa sl sc] 23)
      rwa [show (w.alloc (.cells #[.pointer (some ⟨D.CB, 0, none⟩)] 112)).heap.size = w.heap.size + 1 by simp] at this
    rw [cells_at this, HV.out]; rfl
  have D1 : Dyn Q D us ch ps ap w1 := HD.out.1.but ok b1 (HD.out.1.pol.keep (by rw [hw1, Below.heap_alloc _ _ _ (by simp; omega), Below.heap_alloc _ _ _ (by omega)]))
  have hseq : SeqStopsK Fence.wide 2 Yba.prog 24 #[.pointer (some ⟨w.heap.size + 1, 0, none⟩)] (fun x : Elt ps => #[Value.int .i64 (x.1.1 : Int), .int .i64 (x.1.2 : Int)]) (Kq D.PL w1.heap.size) (fun ys => ys = upto (eltAt ps) ps.length) (fun _ => True) ps.length w1 := by
    refine bw_stops (fun x : Elt ps => x.1) Fence.wide 2 trivial rfl (by decide) (w.heap.size + 1) w1.heap.size D.PL ps.length v (eltAt ps) hpn w1 (Nat.le_refl _) (by omega) (by omega) xs ?_
    rcases HO.out.2 with ⟨e, h0⟩ | ⟨g, cap, cur, e, hB, hg, _⟩
    · exact .inl ⟨e, h0⟩
    · have hO := HO.out
      rw [e] at hO
      refine .inr ⟨g, cap, e, ?_, by omega, fun k q hkq => ?_⟩
      · have := (hO.lt g rfl).2; omega
      · rw [eltAt_val hkq]
        refine ⟨?_, rfl⟩
        have hc := hO.cellAt q (by omega)
        refine (b1.cell (b := g) (o := q) (by simp only [List.mem_singleton]; omega) (hc.trans ?_))
        simp [psV, show q < ps.length by omega]
  rw [← hw1]
  refine (wpIn_wide (n := 3)).1 ?_
  refine wpIn_rangeFunc_ownF (F := Fence.wide) (n := 3) rfl (by decide) (gf := 24) (lb := #[.pointer (some ⟨w.heap.size + 1, 0, none⟩)]) rfl trivial (enters_of Yba.func24 (by kernel_rfl) rfl) hseq (fun h k => h.trans k) (fun W l o o' hl _ _ _ => Kq.putObj W l o' hl) (Below.refl _ _) (fun _ => rfl)
    (fun pre W => Pol D.PL (unmL Q us (pre.map fun x => x.1.2)) W ∧ But [D.PL] w1 W) (fun _ _ _ => False) ?hI (fun _ _ _ _ _ hs _ _ => hs) ⟨D1.pol, But.refl _ _⟩
    (fun x => { tmps := #[.pointer (some ⟨D.CB, 0, none⟩), .pointer (some ⟨w.heap.size, 0, none⟩), undef, .int .i64 (x.1.2 : Int), .pointer (some ⟨D.CB, 0, none⟩), .pointer (some ⟨D.CB, 0, none⟩), .pointer (some ⟨D.CB, 5, none⟩), .slice sa sl sc, .func (.func 24) #[] #[.pointer (some ⟨w.heap.size + 1, 0, none⟩)], .int .i64 (x.1.1 : Int), .int .i64 (x.1.2 : Int), undef, undef, undef, undef, undef, undef, undef, undef, undef, undef, undef, undef, undef, undef, undef, undef, undef, undef, undef, undef, undef, undef], defers := [] }) ?assign ?body ?done ?stop
  case hI =>
    intro s A B row hs hg hr
    have hpz := HD.out.1.pol.lt
    refine ⟨hs.1.keep (hg.block _ hs.1.lt (fun e => ?_)), hs.2.grown hg (fun k hk => .inr (hr k hk).1)⟩
    have := (hr _ e.symm).1
    omega
  case assign =>
    intro l x W K hK
    gi_wp2
    exact hK
  case body =>
    rintro l pre x W ⟨hp, hbW⟩ hlen
    have hx : x.1.2 ∈ ps := by
      rcases x.2 with h | h
      · have h0 : ps.length = 0 := congrArg List.length h
        omega
      · exact h
    obtain ⟨t, ht⟩ : ∃ t, t = x.1.2 := ⟨_, rfl⟩
    rw [← ht] at hx ⊢
    have Ht := hide ht
    clear ht
    have hDW := D1.but ok hbW hp
    have htn := hDW.psl t hx
    have hn1 := hDW.stc.n1
    obtain ⟨la, ll, lc, hap⟩ := hDW.aps t htn
    have hal := hDW.al t htn
    rw [hap] at hal
    obtain ⟨hN, hNg⟩ := HD.out.2 t hx
    have hNe : (ap t).ownBlock ≠ some D.PL := fun e => by have := hNg _ e; omega
    have hbWw := b1.trans hbW
    have HK : Hid (∀ w', Kq D.PL w1.heap.size W w' → w'.cell? ⟨w.heap.size, 0, none⟩ = some (.pointer (some ⟨D.CB, 0, none⟩)) ∧ w'.cell? ⟨D.CB, 0, none⟩ = some (.iface 108 (.pointer (some ⟨D.PL, 0, none⟩))) ∧ w'.cell? ⟨D.CB, 1, none⟩ = some (.slice (some ⟨D.JB, 0, none⟩) Q.n Q.n) ∧ w'.cell? ⟨D.CB, 4, none⟩ = some (.slice (some ⟨D.AL, 0, none⟩) Q.n Q.n) ∧ w'.cell? ⟨D.JB, t * 5 + 1, none⟩ = some (.pointer (some ⟨D.jb t, 0, none⟩)) ∧
        w'.cell? ⟨D.AL, t * 6, none⟩ = some (.slice la ll lc) ∧ w'.cell? ⟨D.AL, t * 6 + 1, none⟩ = some (.slice none 0 0) ∧ w'.cell? ⟨D.AL, t * 6 + 2, none⟩ = some (.slice none 0 0) ∧ w'.cell? ⟨D.AL, t * 6 + 3, none⟩ = some (.int .i64 0) ∧ w'.cell? ⟨D.AL, t * 6 + 4, none⟩ = some (.int .i64 0) ∧ w'.cell? ⟨D.AL, t * 6 + 5, none⟩ = some (.int .i64 0)) := by
      intro w' hw'
      have hb2 := ok.b4
      have hj := ok.j1
      have hjP : D.JB ≠ D.PL := fun e => hj.2 (by rw [e]; exact mem_S.1)
      have hxP : w.heap.size ≠ D.PL := by omega
      have hx0 := hbW.cell (b := w.heap.size) (o := 0) (by simpa using hxP) x0
      refine ⟨(hw'.cell (by omega) hxP).trans hx0, (hw'.cell (by omega) ok.a1.symm).trans hDW.k0, (hw'.cell (by omega) ok.a1.symm).trans hDW.k1, (hw'.cell (by omega) ok.a1.symm).trans hDW.k4, (hw'.cell (by omega) hjP).trans (hDW.stc.job t htn), ?_⟩
      have hA := ok.a3.symm
      exact ⟨(hw'.cell (by omega) hA).trans hal.1, (hw'.cell (by omega) hA).trans hal.2.1, (hw'.cell (by omega) hA).trans hal.2.2.1, (hw'.cell (by omega) hA).trans hal.2.2.2.1, (hw'.cell (by omega) hA).trans hal.2.2.2.2.1, (hw'.cell (by omega) hA).trans hal.2.2.2.2.2⟩
    have hS : Kq D.PL w1.heap.size W W.drew := fun _ _ _ => rfl
    have hRel := release_any D.PL (unmL Q us (pre.map fun x => x.1.2)) (Q.m t) (Q.nf t) (ap t) (some ⟨D.jb t, 0, none⟩) W.drew hp.drew ((hN.but hNe hbWw).but hNe (But.refl _ _).drew) hNe
    rw [hap] at hRel
    have HRel := hide hRel
    have HX := hide (show _ ∧ _ from ⟨hp, hbW⟩)
    have hWs := hbW.size
    clear hRel hal hN hDW hbWw hp hbW
    gi_wp2
    refine region_in l _ (S := Kq D.PL w1.heap.size W) (by kernel_rfl) (noDefer (ops := rel22Ops) (by kernel_rfl)) ?hlo ?_
    case hlo => exact fun ⟨_, _, h⟩ => h
    refine rel22 Q D t w.heap.size la ll lc _ _ _ _ _ _ _ _ _ _ _ _ _ _ _ _ _ _ _ _ _ _ _ _ _ _ _ _ _ _ _ _ (Kq D.PL w1.heap.size W) _ (fun _ _ _ _ h => h) htn HK.out hS (HRel.out.mono ?_)
    rintro e' w' ⟨rfl, hp', hb'⟩
    have hb2 : But [D.PL] W w' := (But.refl _ _).drew.trans hb'
    refine ⟨rfl, Kq.of_but hb2 hWs, keepsO hb2 HX.out.1, Kq.of_but hb2 hWs, ?_, HX.out.2.trans hb2⟩
    · rw [List.map_append, List.map_singleton, unmL_snoc, ← Ht.out]
      exact hp'
  case done =>
    rintro D' ys W hD' rfl ⟨hp, hb⟩ hK
    gi_wp2
    refine ⟨by simp, .inl ⟨_, _, rfl, run_takeDeferred hK, ?_⟩⟩
    refine ⟨_, results_none rfl _ _ _, rfl, ?_⟩
    rw [elts_rev] at hp
    have hpz := hp.lt
    have hw1z := D1.pol.lt
    have hbf : But [D.PL] w1 (W.putObj D' (.deferred none)) := hb.grown (grownBy_putObj' W D' (.deferred none)) (fun k hk => by cases hk; exact .inr hD')
    have hpf : Pol D.PL (unmL Q us ps.reverse) (W.putObj D' (.deferred none)) := hp.keep (World.putObj_heap_other (by omega))
    exact ⟨D1.but ok hbf hpf, b1.trans hbf⟩
  case stop =>
    rintro D' c pre W _ _ h _
    exact h.elim
end Go.Proofs.Ybulkbfpk
