import Derived.Test.YbulkbfmsCModel
import Derived.Laws.BytesString
namespace Go.Proofs.Ybulkbfms
open Go.RowKit

theorem Yba.info5 : (Yba.prog.info? 5).map (fun i => (i.zero, i.size, i.bytes)) = some (some (.int .u8 0), 1, 1) := by kernel_rfl

theorem plain_byte (n : Nat) (h : n < ({ data := #[97, 98, 57, 46, 45, 95, 58, 47, 120, 121, 122, 65, 90, 34, 124] } : ByteArray).size) :
    0 ≤ ((({ data := #[97, 98, 57, 46, 45, 95, 58, 47, 120, 121, 122, 65, 90, 34, 124] } : ByteArray)[n]'h).toNat : Int) ∧ ((({ data := #[97, 98, 57, 46, 45, 95, 58, 47, 120, 121, 122, 65, 90, 34, 124] } : ByteArray)[n]'h).toNat : Int) ≤ 255 ∧
      spI ((({ data := #[97, 98, 57, 46, 45, 95, 58, 47, 120, 121, 122, 65, 90, 34, 124] } : ByteArray)[n]'h).toNat : Int) = false := by
  have hlt := UInt8.toNat_lt (({ data := #[97, 98, 57, 46, 45, 95, 58, 47, 120, 121, 122, 65, 90, 34, 124] } : ByteArray)[n]'h)
  refine ⟨by omega, by omega, ?_⟩
  clear hlt
  have h15 : n < 15 := h
  match n, h15 with
  | 0, _ => rfl
  | 1, _ => rfl
  | 2, _ => rfl
  | 3, _ => rfl
  | 4, _ => rfl
  | 5, _ => rfl
  | 6, _ => rfl
  | 7, _ => rfl
  | 8, _ => rfl
  | 9, _ => rfl
  | 10, _ => rfl
  | 11, _ => rfl
  | 12, _ => rfl
  | 13, _ => rfl
  | 14, _ => rfl

theorem special_byte (n : Nat) (h : n < ({ data := #[32, 9, 61, 39] } : ByteArray).size) : spI ((({ data := #[32, 9, 61, 39] } : ByteArray)[n]'h).toNat : Int) = true ∧ 0 ≤ ((({ data := #[32, 9, 61, 39] } : ByteArray)[n]'h).toNat : Int) ∧ ((({ data := #[32, 9, 61, 39] } : ByteArray)[n]'h).toNat : Int) ≤ 255 := by
  have hlt := UInt8.toNat_lt (({ data := #[32, 9, 61, 39] } : ByteArray)[n]'h)
  refine ⟨?_, by omega, by omega⟩
  clear hlt
  have h4 : n < 4 := h
  match n, h4 with
  | 0, _ => rfl
  | 1, _ => rfl
  | 2, _ => rfl
  | 3, _ => rfl

/-- The bytes of a list of numbers. -/
def bytesOf (ys : List Int) : List UInt8 := ys.map fun y => UInt8.ofNat y.toNat
theorem byte_back {y : Int} (h : 0 ≤ y ∧ y ≤ 255) : ((UInt8.ofNat y.toNat).toNat : Int) = y := by
  rw [UInt8.toNat_ofNat']; omega
theorem anySp_bytes (ys : List Int) (h : ∀ y ∈ ys, 0 ≤ y ∧ y ≤ 255) : anySp (bytesOf ys) = ys.any spI := by
  induction ys with
  | nil => rfl
  | cons y ys ih =>
    have e := byte_back (h y (by simp))
    have ih' := ih fun z hz => h z (by simp [hz])
    simp only [anySp, bytesOf, List.map_cons, List.any_cons] at ih' ⊢
    rw [e, ih']
theorem nq_bytes (ys : List Int) (h : ∀ y ∈ ys, 0 ≤ y ∧ y ≤ 255) : nq ⟨(bytesOf ys).toArray⟩ = (ys.length == 0 || ys.any spI) := by
  have e : (⟨(bytesOf ys).toArray⟩ : ByteArray).size = ys.length := by simp [ByteArray.size, bytesOf]
  rw [nq, e]
  congr 1
  exact anySp_bytes ys h

/-- 'string(buf)', buf a row of the call's own. -/
theorem conv_own {w : World} {B g n cap : Nat} {ys : List Int} (ho : w.ownsRow B 5 1 (.slice (some ⟨g, 0, none⟩) n cap) n (ys.map (Value.int .u8))) (h : ∀ y ∈ ys, 0 ≤ y ∧ y ≤ 255) :
    (convert 24 9 (.slice (some ⟨g, 0, none⟩) n cap)).run Yba.prog w = .ok (.string ⟨(bytesOf ys).toArray⟩) w := by
  have hl : ys.length = n := by have := ho.1; simpa using this
  have hlen : (bytesOf ys).length = n := by simp [bytesOf, hl]
  have := run_convert_bytes_back (P := Yba.prog) w 24 9 5 ⟨g, 0, none⟩ cap (bytesOf ys) Yba.underlying24 Yba.underlying5 Yba.underlying9 (by
    intro j hj
    have hj' : j < ys.length := by rw [hlen] at hj; omega
    have e : (⟨g, 0, none⟩ : Addr).add j = ⟨g, j, none⟩ := by unfold Addr.add; split <;> simp_all
    rw [e, ho.cellAt j (by omega)]
    simp only [List.getElem?_map, List.getElem?_eq_getElem hj', Option.map_some, bytesOf, List.getElem_map]
    rw [byte_back (h _ (List.getElem_mem hj'))])
  rwa [hlen] at this

theorem plain_snoc {w2 : World} {B k : Nat} {v : Value} {ys : List Int} {z : Int} {h : (z % 15).toNat < ({ data := #[97, 98, 57, 46, 45, 95, 58, 47, 120, 121, 122, 65, 90, 34, 124] } : ByteArray).size} (_hz : 0 ≤ z) (HY : ∀ y ∈ ys, 0 ≤ y ∧ y ≤ 255 ∧ spI y = false)
    (ho : w2.ownsRow B 5 1 v (k + 1) (ys.map (Value.int .u8) ++ [.int .u8 ((({ data := #[97, 98, 57, 46, 45, 95, 58, 47, 120, 121, 122, 65, 90, 34, 124] } : ByteArray)[(z % 15).toNat]'h).toNat : Int)])) :
    ∃ ys2 : List Int, w2.ownsRow B 5 1 v (k + 1) (ys2.map (Value.int .u8)) ∧ ∀ y ∈ ys2, 0 ≤ y ∧ y ≤ 255 ∧ spI y = false := by
  refine ⟨ys ++ [((({ data := #[97, 98, 57, 46, 45, 95, 58, 47, 120, 121, 122, 65, 90, 34, 124] } : ByteArray)[(z % 15).toNat]'h).toNat : Int)], by simpa using ho, ?_⟩
  intro y hy
  rcases List.mem_append.1 hy with hy | hy
  · exact HY y hy
  · simp only [List.mem_singleton] at hy
    subst hy
    exact plain_byte _ h

set_option maxRecDepth 20000 in
set_option maxHeartbeats 400000 in
theorem built_short (zs : List Int) (a : Option Addr) (cap : Nat) (pos which : Int) (w : World) (hn : zs.length ≤ 1024) (hp : 0 ≤ pos) (hp2 : pos ≤ 65535) (hw : 0 ≤ which) (hw2 : which ≤ 255)
    (hrow : zs = [] ∨ ∃ b off, a = some ⟨b, off, none⟩ ∧ b < w.heap.size ∧ (∀ i, i < zs.length → w.cell? ⟨b, off + i, none⟩ = some (.int .u8 (zs.getD i 0))) ∧ (∀ i, i < zs.length → 0 ≤ zs.getD i 0 ∧ zs.getD i 0 ≤ 255)) :
    Calls Yba.prog 4 #[.slice a zs.length cap, .int .u16 pos, .int .u8 which] w
      fun e w' => e = .returned (.bool true) ∧ Below w.heap.size w w' := by
  obtain ⟨i0, hi, hz0, hz1, hz2⟩ := info_parts Yba.info5
  have HR : Hid (zs = [] ∨ ∃ b off, a = some ⟨b, off, none⟩ ∧ b < w.heap.size ∧ (∀ i, i < zs.length → w.cell? ⟨b, off + i, none⟩ = some (.int .u8 (zs.getD i 0))) ∧ (∀ i, i < zs.length → 0 ≤ zs.getD i 0 ∧ zs.getD i 0 ≤ 255)) := hrow
  clear hrow
  go_enter Yba.func4, Yba.ntmps4
  go_wp2_with (at_make; refine wpList_make_own _ rfl _ _ 24 rfl w.heap.size 5 i0 _ 1 Yba.underlying24 hi hz0 hz1 _ _ _ (zs.length + 1) rfl rfl (by omega) (by rw [hz2]; omega) (by unfold maxLen; omega) (Nat.le_refl _) ?_)
  intro w1 ho1 hg1
  have hb1 : Below w.heap.size w w1 := (Below.refl _ _).grown hg1 (Nat.le_refl _) (fun k hk => by cases hk)
  clear hg1
  go_wp2
  go_loopw [7, 8] (fun v i wr => ∃ (k : Nat) (ys : List Int), k ≤ zs.length ∧ i = .int .i64 k ∧ v = .slice (some ⟨w.heap.size, 0, none⟩) k (zs.length + 1) ∧ wr.ownsRow w.heap.size 5 1 (.slice (some ⟨w.heap.size, 0, none⟩) k (zs.length + 1)) k (ys.map (Value.int .u8)) ∧ (∀ y ∈ ys, 0 ≤ y ∧ y ≤ 255 ∧ spI y = false) ∧ Below w.heap.size w wr) (fun _ i _ => zs.length - (intOf i).toNat)
  case atStart => exact ⟨0, [], Nat.zero_le _, rfl, rfl, ho1, by simp, hb1⟩
  case round =>
    clear ho1 hb1
    obtain ⟨k, ys, hk, rfl, rfl, ho, HY, hbel⟩ := hrel
    by_cases hlt : k < zs.length
    · obtain ⟨b, off, rfl, hb, hc, hz⟩ := (HR.out).resolve_left (by intro h; subst h; simp at hlt)
      clear HR
      have e1 : wr.cell? ⟨b, off + k, none⟩ = some (.int .u8 (zs.getD k 0)) := (hbel.cell hb).trans (hc k hlt)
      obtain ⟨z, hzz⟩ : ∃ z, z = zs.getD k 0 := ⟨_, rfl⟩
      have hr := hz k hlt
      rw [← hzz] at e1 hr
      obtain ⟨r1, r2⟩ := hr
      clear hzz hc hz
      go_wp2_with (at_builtin; refine wpList_append_fits _ rfl (.tmp 27) (.tmp 35) 24 rfl w.heap.size 5 i0 1 Yba.underlying24 hi hz1 w.heap.size k (zs.length + 1) _ rfl (ho.alloc _) ⟨wr.heap.size, 0, none⟩ 1 1 [_] rfl rfl (cell_one_new _ _ _) (by intro u hu; simp at hu; subst hu; rfl) (by omega) ?_)
      intro w2 ho2 hg2
      obtain ⟨ys2, hys2, hy2⟩ := plain_snoc (z := z) (by omega) HY ho2
      have hb2 : Below w.heap.size w w2 := (hbel.alloc hbel.size _).grown hg2 (by have := hbel.size; simp; omega) (fun j hj => by cases hj; exact Nat.le_refl _)
      have HO2 : Hid (w2.ownsRow w.heap.size 5 1 (.slice (some ⟨w.heap.size, 0, none⟩) (k + 1) (zs.length + 1)) (k + 1) (ys2.map (Value.int .u8))) := hys2
      clear ho2 hg2 ho hys2 HY
      go_wp2
      go_roundw
      case rel => exact ⟨k + 1, ys2, by omega, by go_num, rfl, HO2.out, hy2, hb2⟩
      case measure => simp [intOf]; omega
    · have ek : k = zs.length := by omega
      subst ek
      clear HR hlt hk
      have hly : ys.length = zs.length := by have := ho.1; simpa using this
      obtain ⟨n, hnn⟩ : ∃ n, n = zs.length := ⟨_, rfl⟩
      rw [← hnn] at ho hly hn
      rw [← hnn]
      by_cases hput : which % 5 < 4
      · obtain ⟨p, hpp, hpn⟩ : ∃ p : Nat, pos % ((n : Int) + 1) = (p : Int) ∧ p ≤ n := by
          have h1 := Int.emod_nonneg pos (show (n : Int) + 1 ≠ 0 by omega)
          have h2 := Int.emod_lt_of_pos pos (show (0 : Int) < (n : Int) + 1 by omega)
          exact ⟨(pos % ((n : Int) + 1)).toNat, by omega, by omega⟩
        have HY2 : ∀ y ∈ ys, 0 ≤ y ∧ y ≤ 255 := fun y hy => ⟨(HY y hy).1, (HY y hy).2.1⟩
        clear HY hnn
        go_wp2_with (at_builtin; refine wpList_append_fits _ rfl (.tmp 49) (.tmp 50) 24 rfl w.heap.size 5 i0 1 Yba.underlying24 hi hz1 w.heap.size n (n + 1) _ rfl (ho.alloc _) ⟨wr.heap.size, 0, none⟩ 1 1 [.int .u8 0] rfl rfl (cell_one_new _ _ _) (by intro u hu; simp at hu; subst hu; rfl) (by omega) ?_)
        intro w2 ho2 hg2
        have hb2 : Below w.heap.size w w2 := (hbel.alloc hbel.size _).grown hg2 (by have := hbel.size; simp; omega) (fun j hj => by cases hj; exact Nat.le_refl _)
        have HO2 : Hid (∃ ys2 : List Int, w2.ownsRow w.heap.size 5 1 (.slice (some ⟨w.heap.size, 0, none⟩) (n + 1) (n + 1)) (n + 1) (ys2.map (Value.int .u8)) ∧ ∀ y ∈ ys2, 0 ≤ y ∧ y ≤ 255) :=
          ⟨ys ++ [0], by simpa using ho2, by intro y hy; rcases List.mem_append.1 hy with h | h; exact HY2 y h; simp at h; omega⟩
        clear ho2 hg2 ho HY2 hly hbel hi hz0 hz1 hz2
        go_wp2
        go_loopw [12] (fun i wr => ∃ (j : Nat) (ys2 : List Int), p ≤ j ∧ j ≤ n ∧ i = .int .i64 j ∧ wr.ownsRow w.heap.size 5 1 (.slice (some ⟨w.heap.size, 0, none⟩) (n + 1) (n + 1)) (n + 1) (ys2.map (Value.int .u8)) ∧ (∀ y ∈ ys2, 0 ≤ y ∧ y ≤ 255) ∧ Below w.heap.size w wr) (fun i _ => (intOf i).toNat)
        case atStart => obtain ⟨ys2, q1, q2⟩ := HO2.out; exact ⟨n, ys2, hpn, Nat.le_refl _, by go_num, q1, q2, hb2⟩
        case round =>
          clear HO2 hb2
          obtain ⟨j, ys2, hj1, hj2, rfl, ho, HY, hbel⟩ := hrel
          have hly : ys2.length = n + 1 := by have := ho.1; simpa using this
          by_cases hgt : p < j
          · have e1 : wr.cell? ⟨w.heap.size, j - 1, none⟩ = some (.int .u8 (ys2.getD (j - 1) 0)) := by
              rw [ho.cellAt (j - 1) (by omega)]; simp [show j - 1 < ys2.length by omega]
            have e2 : wr.cell? ⟨w.heap.size, j, none⟩ = some (.int .u8 (ys2.getD j 0)) := by
              rw [ho.cellAt j (by omega)]; simp [show j < ys2.length by omega]
            have f1 := ho.frozenAt j
            obtain ⟨v, hv⟩ : ∃ v, v = ys2.getD (j - 1) 0 := ⟨_, rfl⟩
            have hvb : 0 ≤ v ∧ v ≤ 255 := by
              rw [hv]; exact HY _ (by simp [show j - 1 < ys2.length by omega])
            rw [← hv] at e1
            have HO : Hid (∃ ys3 : List Int, (wr.setCell ⟨w.heap.size, j, none⟩ (.int .u8 v)).ownsRow w.heap.size 5 1 (.slice (some ⟨w.heap.size, 0, none⟩) (n + 1) (n + 1)) (n + 1) (ys3.map (Value.int .u8)) ∧ ∀ y ∈ ys3, 0 ≤ y ∧ y ≤ 255) := by
              refine ⟨ys2.set j v, by have := (ho.stored j (.int .u8 v)).1; rwa [← List.map_set] at this, ?_⟩
              intro y hy
              rcases List.mem_or_eq_of_mem_set hy with h | h
              · exact HY y h
              · subst h; exact hvb
            have hb3 := hbel.setCell (p := ⟨w.heap.size, j, none⟩) (Nat.le_refl _) (.int .u8 v)
            clear hv ho HY hbel hly hvb
            go_wp2
            go_roundw
            case rel => obtain ⟨ys3, q1, q2⟩ := HO.out; exact ⟨j - 1, ys3, by omega, by omega, by go_num, q1, q2, hb3⟩
            case measure => simp [intOf]; omega
          · have hjp : j = p := by omega
            subst hjp
            obtain ⟨y0, e2⟩ : ∃ y0, wr.cell? ⟨w.heap.size, j, none⟩ = some (.int .u8 y0) := by
              refine ⟨ys2.getD j 0, ?_⟩
              rw [ho.cellAt j (by omega)]; simp [show j < ys2.length by omega]
            have f1 := ho.frozenAt j
            have HS : Hid (∀ v : Int, spI v = true → 0 ≤ v → v ≤ 255 → ∃ S : ByteArray, S.size ≤ 9223372036854775807 ∧ nq S = true ∧ (convert 24 9 (.slice (some ⟨w.heap.size, 0, none⟩) (n + 1) (n + 1))).run Yba.prog (wr.setCell ⟨w.heap.size, j, none⟩ (.int .u8 v)) = .ok (.string S) (wr.setCell ⟨w.heap.size, j, none⟩ (.int .u8 v))) := by
              intro v hv v0 v1
              have hb : ∀ y ∈ ys2.set j v, 0 ≤ y ∧ y ≤ 255 := by
                intro y hy
                rcases List.mem_or_eq_of_mem_set hy with h | h
                · exact HY y h
                · subst h; exact ⟨v0, v1⟩
              have ho3 := (ho.stored j (.int .u8 v)).1
              rw [← List.map_set] at ho3
              refine ⟨⟨(bytesOf (ys2.set j v)).toArray⟩, by simp [ByteArray.size, bytesOf]; omega, ?_, conv_own ho3 hb⟩
              rw [nq_bytes _ hb, Bool.or_eq_true]
              right
              rw [List.any_eq_true]
              exact ⟨v, List.mem_set (by omega) v, hv⟩
            have hb3 : ∀ v, Below w.heap.size w (wr.setCell ⟨w.heap.size, j, none⟩ v) := fun v => hbel.setCell (p := ⟨w.heap.size, j, none⟩) (Nat.le_refl _) v
            clear ho HY hbel hly
            have hw4 : 0 ≤ which % 5 := by omega
            obtain ⟨S, hS1, hS2, hS3⟩ := HS.out _ (special_byte (which % 5).toNat (by show _ < 4; omega)).1 (special_byte (which % 5).toNat (by show _ < 4; omega)).2.1 (special_byte (which % 5).toNat (by show _ < 4; omega)).2.2
            go_wp2_with (go_at_call 6; refine (needs_any S _ hS1).mono ?_; rw [hS2]; rintro e w' ⟨rfl, rfl⟩)
            go_ret
            exact ⟨rfl, hb3 _⟩
      · have hcv := conv_own ho (fun y hy => ⟨(HY y hy).1, (HY y hy).2.1⟩)
        have hnq := nq_bytes ys (fun y hy => ⟨(HY y hy).1, (HY y hy).2.1⟩)
        have hany : ys.any spI = false := by
          rw [List.any_eq_false]
          intro y hy
          simp [(HY y hy).2.2]
        rw [hly, hany] at hnq
        have hsz : (⟨(bytesOf ys).toArray⟩ : ByteArray).size ≤ 9223372036854775807 := by simp [ByteArray.size, bytesOf]; omega
        obtain ⟨S, hS⟩ : ∃ S : ByteArray, S = ⟨(bytesOf ys).toArray⟩ := ⟨_, rfl⟩
        rw [← hS] at hcv hnq hsz
        have HQ : Hid (nq S = (n == 0 || false)) := hnq
        clear hnq hS hany HY ho hnn hly
        go_wp2_with (go_at_call 6; refine (needs_any S _ hsz).mono ?_; rintro e w' ⟨rfl, rfl⟩)
        go_ret
        refine ⟨ret_bool ?_, hbel⟩
        rw [HQ.out]
        have e : ((n : Int) == 0) = (n == 0) := by rw [Bool.eq_iff_iff]; simp
        rw [e]
        cases (n == 0) <;> rfl

set_option maxHeartbeats 400000 in
theorem built_long (a : Option Addr) (len cap : Nat) (pos which : Int) (w : World) (h : 1024 < len) :
    Calls Yba.prog 4 #[.slice a len cap, .int .u16 pos, .int .u8 which] w fun e w' => e = .returned (.bool true) ∧ Below w.heap.size w w' := by
  go_enter Yba.func4, Yba.ntmps4
  go_wp2
  go_ret
  exact ⟨rfl, Below.refl _ _⟩
end Go.Proofs.Ybulkbfms
