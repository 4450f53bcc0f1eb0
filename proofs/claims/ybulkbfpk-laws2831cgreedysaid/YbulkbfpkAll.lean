import Derived.Test.YbulkbfpkTn
namespace Go.Proofs.Ybulkbfpk
open Go.RowKit Go.Shelf
/-- What is taken, pending, chosen. -/
structure Gst where
  us : Nat → Bool
  ps : List Nat
  ch : Nat → Int
def Gst.step (Q : Dat) (t : Nat) (g : Gst) : Gst :=
  if Q.pk t < 0 then g
  else if Q.core t then (if pendFit Q g.us (g.ps ++ [t]) then ⟨g.us, g.ps ++ [t], upd g.ch t (Q.pk t)⟩ else g)
  else if (fitsF g.us (Q.nf t) (Q.m t) && pendFit Q (markF g.us (Q.nf t) (Q.m t)) g.ps) then ⟨markF g.us (Q.nf t) (Q.m t), g.ps, upd g.ch t (Q.pk t)⟩ else g
def gs (Q : Dat) : Nat → Gst
  | 0 => ⟨fun _ => false, [], fun _ => -1⟩
  | t + 1 => (gs Q t).step Q t
structure Gok (Q : Dat) (t : Nat) (g : Gst) : Prop where
  lt : ∀ s, s ∈ g.ps → s < t
  nd : g.ps.Nodup
  chs : Chs Q g.ch g.ps
  rest : ∀ s, t ≤ s → g.ch s = -1
  len : g.ps.length ≤ t
theorem Gok.step {Q : Dat} {t : Nat} {g : Gst} (ih : Gok Q t g) : Gok Q (t + 1) (g.step Q t) := by
  have same : Gok Q (t + 1) g := ⟨fun s hs => by have := ih.lt s hs; omega, ih.nd, ih.chs, fun s hs => ih.rest s (by omega), by have := ih.len; omega⟩
  have hnt : t ∉ g.ps := fun h => by have := ih.lt t h; omega
  have hchs : ∀ z, Chs Q (upd g.ch t z) g.ps := fun z s hs => by
    obtain ⟨b, b1, b2⟩ := ih.chs s hs
    refine ⟨b, b1, ?_⟩
    rw [upd_ne _ _ (fun e => by rw [e] at hs; exact hnt hs)]
    exact b2
  unfold Gst.step
  split
  · exact same
  · rename_i hpk
    split
    · split
      · refine ⟨fun s hs => ?_, ?_, ?_, fun s hs => ?_, ?_⟩
        · rcases List.mem_append.1 hs with h | h
          · have := ih.lt s h; omega
          · have := List.mem_singleton.1 h; omega
        · show (g.ps ++ [t]).Nodup
          rw [List.nodup_append]
          refine ⟨ih.nd, by simp, fun a ha b hb e => ?_⟩
          have hb' := List.mem_singleton.1 hb
          rw [e, hb'] at ha
          exact hnt ha
        · intro s hs
          rcases List.mem_append.1 hs with h | h
          · exact hchs _ s h
          · have h' := List.mem_singleton.1 h
            refine ⟨(Q.pk t).toNat, by rw [h']; omega, ?_⟩
            show upd g.ch t (Q.pk t) s = _
            rw [h', upd_eq]; omega
        · show upd g.ch t (Q.pk t) s = _
          rw [upd_ne _ _ (by omega)]; exact ih.rest s (by omega)
        · have := ih.len
          show (g.ps ++ [t]).length ≤ t + 1
          simp; omega
      · exact same
    · split
      · refine ⟨fun s hs => by have := ih.lt s hs; omega, ih.nd, hchs _, fun s hs => ?_, by have := ih.len; show g.ps.length ≤ t + 1; omega⟩
        show upd g.ch t (Q.pk t) s = _
        rw [upd_ne _ _ (by omega)]; exact ih.rest s (by omega)
      · exact same
theorem gok (Q : Dat) : ∀ t, Gok Q t (gs Q t)
  | 0 => ⟨(fun _ h => by cases h), List.nodup_nil, (fun _ h => by cases h), (fun _ _ => rfl), Nat.le_refl _⟩
  | t + 1 => (gok Q t).step
theorem gs_neg {Q : Dat} {t : Nat} (h : Q.pk t < 0) : gs Q (t + 1) = gs Q t := by simp [gs, Gst.step, h]
theorem upd_same {f : Nat → Int} {t : Nat} {z : Int} (h : f t = -1) : ∀ s, (upd (upd f t z) t (-1)) s = f s := by
  intro s
  by_cases e : s = t
  · subst e; rw [upd_eq, h]
  · rw [upd_ne _ _ e, upd_ne _ _ e]
set_option maxRecDepth 100000 in
set_option maxHeartbeats 2000000 in
theorem takeAll_any (Q : Dat) (D : Bk) (ap : Nat → Value) (PK c : Nat) (w : World) (h : Dyn Q D (gs Q 0).us (gs Q 0).ch (gs Q 0).ps ap w) (ok : D.Ok Q.n) (hp : ∀ t, t < Q.n → w.cell? ⟨PK, t, none⟩ = some (.int .i64 (Q.pk t))) (hP : PK < D.B) (hPS : PK ∉ D.S) :
    Calls Yba.prog 10 #[.pointer (some ⟨D.CB, 0, none⟩), .slice (some ⟨PK, 0, none⟩) Q.n c] w fun e w' => e = .returned (.tuple #[]) ∧ Frm D w w' ∧ ∃ ap', Dyn Q D (gs Q Q.n).us (gs Q Q.n).ch (gs Q Q.n).ps ap' w' := by
  have n1 := h.stc.n1
  have HD := hide h
  have HP := hide hp
  clear h hp
  go_enter Yba.func10, Yba.ntmps10
  go_wp2_with fail
  go_loopw [8] (fun iv wr => ∃ (t : Nat) (ap' : Nat → Value), t ≤ Q.n ∧ iv = .int .i64 t ∧ Frm D w wr ∧ Dyn Q D (gs Q t).us (gs Q t).ch (gs Q t).ps ap' wr) (fun iv _ => Q.n - (intOf iv).toNat)
  case atStart => exact ⟨0, ap, Nat.zero_le _, rfl, Frm.refl _ _, HD.out⟩
  case round =>
    obtain ⟨t, ap', ht, rfl, ft, dt⟩ := hrel
    have H := hide (show _ ∧ _ from ⟨ft, dt⟩)
    by_cases hlt : t < Q.n
    · have ck := (World.cell?_of_block (a := ⟨PK, t, none⟩) (ft.block PK hP hPS)).trans (HP.out t hlt)
      have G := gok Q t
      clear ft dt
      by_cases hneg : Q.pk t < 0
      · go_wp2_with fail
        go_roundw
        case rel => exact ⟨t + 1, ap', by omega, by simp, H.out.1, by rw [gs_neg hneg]; exact H.out.2⟩
        case measure => simp [intOf]; omega
      · obtain ⟨b, hb⟩ : ∃ b : Nat, Q.pk t = b := ⟨(Q.pk t).toNat, by omega⟩
        rw [hb] at ck
        have hnt : t ∉ (gs Q t).ps := fun h => by have := G.lt t h; omega
        have hr := G.rest t (Nat.le_refl _)
        cases hc : Q.core t with
        | true =>
          have hnd2 : ((gs Q t).ps ++ [t]).Nodup := by
            rw [List.nodup_append]
            refine ⟨G.nd, by simp, fun a ha b hb e => ?_⟩
            have hb' := List.mem_singleton.1 hb
            rw [e, hb'] at ha
            exact hnt ha
          have HT := hide (take_core Q D _ _ _ ap' wr t b H.out.2 ok hlt hc hb G.chs hnd2 (by have := G.len; omega))
          clear hnd2 G
          go_wp2_with (go_at_call 15; refine HT.out.mono ?_; rintro e w2 ⟨rfl, f2, ap2, d2⟩; have H2 := hide (show _ ∧ _ from ⟨f2, d2⟩); clear f2 d2 HT)
          go_roundw
          case rel =>
            refine ⟨t + 1, ap2, by omega, by simp, H.out.1.trans H2.out.1, ?_⟩
            have hd := H2.out.2
            show Dyn Q D ((gs Q t).step Q t).us ((gs Q t).step Q t).ch ((gs Q t).step Q t).ps ap2 w2
            unfold Gst.step
            rw [if_neg (show ¬ Q.pk t < 0 by omega), hc, if_pos rfl]
            cases hpf : pendFit Q (gs Q t).us ((gs Q t).ps ++ [t]) with
            | true => rw [hpf] at hd; simp only [if_true] at hd ⊢; rw [hb]; exact hd
            | false => rw [hpf] at hd; simp only [Bool.false_eq_true, if_false] at hd ⊢; exact hd.extch (fun s _ => upd_same hr s)
          case measure => simp [intOf]; omega
        | false =>
          have HT := hide (take_node Q D _ _ _ ap' wr t b H.out.2 ok hlt hc hb G.chs G.nd hnt)
          clear G
          go_wp2_with (go_at_call 15; refine HT.out.mono ?_; rintro e w2 ⟨r, hrr, rfl, f2, ap2, d2⟩; have H2 := hide (show _ ∧ _ ∧ _ from ⟨f2, d2, hrr⟩); clear f2 d2 HT hrr)
          go_roundw
          case rel =>
            refine ⟨t + 1, ap2, by omega, by simp, H.out.1.trans H2.out.1, ?_⟩
            have hd := H2.out.2.1
            have hrr := H2.out.2.2
            show Dyn Q D ((gs Q t).step Q t).us ((gs Q t).step Q t).ch ((gs Q t).step Q t).ps ap2 w2
            unfold Gst.step
            rw [if_neg (show ¬ Q.pk t < 0 by omega), hc, if_neg (by decide), ← hrr]
            cases r with
            | true => simp only [if_true] at hd ⊢; rw [hb]; exact hd
            | false => simp only [Bool.false_eq_true, if_false] at hd ⊢; exact hd.extch (fun s _ => upd_same hr s)
          case measure => simp [intOf]; omega
    · have hte : t = Q.n := by omega
      subst hte
      clear ft dt
      go_wp2_with fail
      go_end0
      exact ⟨rfl, H.out.1, ap', H.out.2⟩
end Go.Proofs.Ybulkbfpk
