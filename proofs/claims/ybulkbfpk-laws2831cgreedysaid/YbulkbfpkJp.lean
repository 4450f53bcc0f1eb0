import Derived.Test.YbulkbfpkJo
namespace Go.Proofs.Ybulkbfpk
open Go.RowKit Go.Shelf
def rowI (m : Nat) (f : Nat → Int) : List Value := (List.range m).map fun i => .int .i64 (f i)
theorem rowI_len (m : Nat) (f : Nat → Int) : (rowI m f).length = m := by simp [rowI]
theorem rowI_at (m : Nat) (f : Nat → Int) (i : Nat) (h : i < m) : (rowI m f)[i]? = some (.int .i64 (f i)) := by simp [rowI, h]
theorem rowI_one (m : Nat) (f : Nat → Int) : ∀ u ∈ rowI m f, u.oneCell' = true := by
  intro u hu
  simp only [rowI, List.mem_map] at hu
  obtain ⟨j, _, rfl⟩ := hu
  rfl
theorem psV_one (ps : List Nat) : ∀ u ∈ psV ps, u.oneCell' = true := by
  intro u hu
  simp only [psV, List.mem_map] at hu
  obtain ⟨j, _, rfl⟩ := hu
  rfl
set_option maxRecDepth 20000 in
set_option maxHeartbeats 1000000 in
theorem clone_vals (ad : Addr) (c : Nat) (xs : List Value) (w : World) (hm : xs.length ≤ 1024) (hone : ∀ u ∈ xs, u.oneCell' = true) (h : ∀ i u, xs[i]? = some u → w.cell? (ad.add i) = some u) :
    Calls Yba.prog 9 #[.slice (some ad) xs.length c] w fun e w' => ∃ v, e = .returned v ∧ w'.ownsRow w.heap.size 3 1 v xs.length xs ∧ Below w.heap.size w w' := by
  obtain ⟨i3, hi3, hz3, hs3, hb3⟩ := info_of (t := 3) (z := .int .i64 0) (s := 1) (b := 8) (by kernel_rfl)
  have q := eql_some 23 3 Yba.underlying23 ad xs.length c w
  have hnews : Hid (∀ o j u, xs[j]? = some u → (w.alloc o).cell? (ad.add j) = some u) := by
    intro o j u hj
    have h1 := h j u hj
    exact (World.cell?_alloc_lt _ _ _ (World.block_lt_of_cell? w _ h1)).trans h1
  have Hone := hide hone
  clear h hone
  have hown := fun C (hC : C.size = 0) => World.ownsRow_lit (base := w.heap.size) (e := 3) (size := 1) w C 0 (Nat.le_refl _) (by decide) hC
  have h0 := hide (hown #[] rfl)
  clear hown
  go_enter Yba.func9, Yba.ntmps9
  go_wp2_with (at_builtin; go_loud (refine wpList_append_own_at _ rfl (.tmp 5) (.tmp 6) 23 rfl w.heap.size 3 i3 _ 1 8 Yba.underlying23 hi3 hz3 hs3 hb3 rfl (by decide) (.slice (some ⟨w.heap.size, 0, none⟩) 0 0) 0 [] rfl h0.out ad xs.length c xs rfl (by omega) (hnews.out _) Hone.out (by unfold maxLen; omega) (by omega) (by simp) ?_; intro v' w' h1 h2 h3 h4; have H4 := hide (show _ ∧ _ from ⟨h1, h2⟩); clear h1 h2 h3 h4))
  go_ret
  refine ⟨v', rfl, by simpa using H4.out.1, ((Below.refl _ _).alloc (Nat.le_refl _) _).grown H4.out.2 (by simp) (fun k hk => by cases hk; exact Nat.le_refl _)⟩
/-- Clone of an own row. -/
theorem clone_own (ps : List Nat) (v : Value) (B : Nat) (w : World) (hl : ps.length ≤ 1024) (ho : w.ownsRow B 3 1 v ps.length (psV ps)) :
    Calls Yba.prog 9 #[v] w fun e w' => ∃ v', e = .returned v' ∧ w'.ownsRow w.heap.size 3 1 v' ps.length (psV ps) ∧ Below w.heap.size w w' := by
  rcases ho.2 with ⟨rfl, h0⟩ | ⟨g, cap, cur, e, _⟩
  · refine (clone_nil w).mono ?_
    rintro e w' ⟨rfl, rfl⟩
    exact ⟨_, rfl, ⟨ho.1, .inl ⟨rfl, h0⟩⟩, Below.refl _ _⟩
  · subst e
    have := clone_vals ⟨g, 0, none⟩ cap (psV ps) w (by rw [psV_len]; exact hl) (psV_one ps) (fun i u hu => by
      have hi : i < ps.length := by
        rcases Nat.lt_or_ge i ps.length with h | h
        · exact h
        · rw [List.getElem?_eq_none (by rw [psV_len]; omega)] at hu; cases hu
      have hc := ho.cellAt i (by omega)
      rw [show (⟨g, 0, none⟩ : Addr).add i = ⟨g, i, none⟩ by simp [Addr.add, eq_comm]]
      rw [hc]
      exact hu)
    rw [psV_len] at this
    exact this
theorem run_equalIn_us (us : Nat → Bool) (d : Nat) (w : World) : (Op.equalIn (d + 2) 109 (.agg (usA us)) (.agg (usA us))).run Yba.prog w = .ok true w := by
  have hsz : ∀ w, (sizeOf 4).run Yba.prog w = .ok 1 w := by
    intro w
    simp [sizeOf]
    kernel_rfl
  rw [Op.equalIn]
  simp only [Sem.run_bind, run_underlying Yba.underlying109, Result.andThen_ok, hsz, Std.Legacy.Range.forIn_eq_forIn_range', Std.Legacy.Range.size, Nat.sub_zero, Nat.add_sub_cancel, Nat.div_one]
  have hl : ∀ i ∈ List.range' 0 8 1, i < 8 := fun i hi => by simpa using (List.mem_range'_1.1 hi).2
  generalize List.range' 0 8 1 = l at hl ⊢
  induction l with
  | nil => simp
  | cons i l ih =>
    have hi : i < 8 := hl i (by simp)
    have px : (part 4 (usA us) (i * 1)).run Yba.prog w = .ok (.bool (us i)) w := by
      rw [Nat.mul_one]
      simp [part, isAgg, run_underlying Yba.underlying4, usA_at us i hi]
    have pe : (Op.equalIn (d + 1) 4 (.bool (us i)) (.bool (us i))).run Yba.prog w = .ok true w := by
      rw [run_equalIn_bool' w d 4 _ _ Yba.underlying4]; simp
    simp only [List.forIn_cons, Sem.run_bind, px, pe, Result.andThen_ok]
    simp only [Bool.not_true, Bool.false_eq_true, if_false, Sem.run_pure, Result.andThen_ok]
    exact ih fun j hj => hl j (by simp [hj])
theorem eql_us (us : Nat → Bool) (w : World) : (binOp .eql 109 (.agg (usA us)) (.agg (usA us))).run Yba.prog w = .ok (.bool true) w := by
  rw [run_eql_struct, run_equalIn_us us 9998 w]
  rfl
theorem own_shape {w : World} {B : Nat} {v : Value} {ps : List Nat} (h : w.ownsRow B 3 1 v ps.length (psV ps)) : ∃ a c, v = .slice a ps.length c ∧ (0 < ps.length → ∃ g, a = some ⟨g, 0, none⟩ ∧ ∀ i (hi : i < ps.length), w.cell? ⟨g, i, none⟩ = some (.int .i64 (ps[i] : Int))) := by
  rcases h.2 with ⟨rfl, h0⟩ | ⟨g, cap, cur, e, _⟩
  · exact ⟨none, 0, by rw [h0], fun hp => by omega⟩
  · subst e
    refine ⟨_, _, rfl, fun _ => ⟨g, rfl, fun i hi => ?_⟩⟩
    rw [h.cellAt i (by omega)]
    simp [psV, hi]
/-- The clone made, all as it lies behind the making loop. -/
structure C9 (J : JIn) (G : Nat) (jb bb nb : Nat → Nat) (pcv : Value) (w9 : World) : Prop where
  bj : Bj J G J.n jb bb nb w9
  pc : w9.ownsRow (G + 3) 3 1 pcv J.n (rowI J.n J.pk)
def dB (J : JIn) (G CH : Nat) (jb bb nb : Nat → Nat) : Bk := { PL := CH + 1, CB := CH + 3, JB := G, CH := CH, AL := CH + 2, jb := jb, bb := bb, nb := nb, bl := J.bn, B := CH + 4 }
theorem C9.next {J : JIn} {G : Nat} {jb bb nb : Nat → Nat} {pcv : Value} {w w' : World} (h : C9 J G jb bb nb pcv w) (hb : Below w.heap.size w w') : C9 J G jb bb nb pcv w' := ⟨h.bj.next hb, own_kept h.pc fun k _ _ hl => hb.block k hl⟩
/-- takeAll done. -/
structure C14 (J : JIn) (w w9 wt : World) (G : Nat) (jb bb nb : Nat → Nat) (pcv : Value) (ap : Nat → Value) : Prop where
  hB : Bnd J
  hG : w.heap.size ≤ G
  c9 : C9 J G jb bb nb pcv w9
  lw : Below w.heap.size w w9
  l9 : Below w9.heap.size w9 wt
  dyn : Dyn J.dat (dB J G w9.heap.size jb bb nb) (gs J.dat J.n).us (gs J.dat J.n).ch (gs J.dat J.n).ps ap wt
theorem C14.below {J : JIn} {w w9 wt wx : World} {G : Nat} {jb bb nb : Nat → Nat} {pcv : Value} {ap : Nat → Value} (C : C14 J w w9 wt G jb bb nb pcv ap) (h : Below wt.heap.size wt wx) : Below w.heap.size w wx := by
  have l1 := C.lw.trans (C.l9.mono C.lw.size)
  exact l1.trans (h.mono l1.size)
theorem C14.lt {J : JIn} {w w9 wt : World} {G : Nat} {jb bb nb : Nat → Nat} {pcv : Value} {ap : Nat → Value} (C : C14 J w w9 wt G jb bb nb pcv ap) : w9.heap.size + 4 ≤ wt.heap.size := C.dyn.hB
/-- A cell of the world behind takeAll, later. -/
theorem later {wt wx : World} (h : Below wt.heap.size wt wx) {b o : Nat} {u : Value} (hc : wt.cell? ⟨b, o, none⟩ = some u) : wx.cell? ⟨b, o, none⟩ = some u := (World.cell?_of_block (a := ⟨b, o, none⟩) (h.block b (lt_of_cell hc))).trans hc
/-- The model's state. -/
structure Mst (J : JIn) (pv : Value) (g : Gst) (wt w : World) : Prop where
  bel : Below wt.heap.size wt w
  occ : w.heap[wt.heap.size]? = some (.cells (usA g.us) 109)
  pnd : w.ownsRow (wt.heap.size + 2) 3 1 pv g.ps.length (psV g.ps)
  exc : ∀ s, s < J.n → w.cell? ⟨wt.heap.size + 1, s, none⟩ = some (.int .i64 (g.ch s))
  exf : ∀ o, w.frozen? ⟨wt.heap.size + 1, o, none⟩ = false
  sz : wt.heap.size + 2 ≤ w.heap.size
theorem Mst.next {J : JIn} {pv : Value} {g : Gst} {wt w w' : World} (h : Mst J pv g wt w) (hb : Below w.heap.size w w') : Mst J pv g wt w' := by
  have hs := hb.size
  have hz := h.sz
  refine ⟨h.bel.trans (hb.mono h.bel.size), (hb.block _ (by omega)).trans h.occ, own_kept h.pnd fun k _ _ hl => hb.block k hl, fun s hs => (World.cell?_of_block (a := ⟨wt.heap.size + 1, s, none⟩) (hb.block _ (by show wt.heap.size + 1 < _; omega))).trans (h.exc s hs), fun o => ?_, by omega⟩
  rw [World.frozen?_of_block (a := ⟨wt.heap.size + 1, o, none⟩) (hb.block _ (by show wt.heap.size + 1 < _; omega))]
  exact h.exf o
end Go.Proofs.Ybulkbfpk
