/-
  THE WALKS of zzLabels and zzPerm.
-/
import Derived.Test.Qxb6001298aDec
namespace Go.Proofs.Qxb6001298a.Labels
open Go.RowKit

theorem info9 : (Try.prog.info? 9).map (fun i => (i.zero, i.size, i.bytes)) = some (some (.string ⟨#[]⟩), 1, 16) := by kernel_rfl
theorem info3 : (Try.prog.info? 3).map (fun i => (i.zero, i.size, i.bytes)) = some (some (.int .i64 0), 1, 8) := by kernel_rfl
theorem info4 : (Try.prog.info? 4).map (fun i => (i.zero, i.size, i.bytes)) = some (some (.bool false), 1, 1) := by kernel_rfl

/-- ss are the decimal texts of 0 .. n-1. -/
def Labelled (ss : List ByteArray) (n : Nat) : Prop := ss.length = n ∧ ∀ i, i < n → DecOf (ss.getD i ByteArray.empty) i

theorem step_strs (ss : List ByteArray) (n : Nat) (s : ByteArray) (h : ss.length < n) :
    (ss.map Value.string ++ List.replicate (n - ss.length) (Value.string ⟨#[]⟩)).set ss.length (.string s) = (ss ++ [s]).map Value.string ++ List.replicate (n - (ss ++ [s]).length) (Value.string ⟨#[]⟩) := by
  rw [List.set_append_right _ _ (by simp)]
  have e : n - ss.length = (n - (ss ++ [s]).length) + 1 := by simp; omega
  rw [e, List.replicate_succ]
  simp

theorem Labelled.snoc {ss : List ByteArray} {k : Nat} {s : ByteArray} (h : Labelled ss k) (hs : DecOf s k) : Labelled (ss ++ [s]) (k + 1) := by
  obtain ⟨h1, h2⟩ := h
  refine ⟨by simp [h1], ?_⟩
  intro i hi
  by_cases hik : i < k
  · have := h2 i hik
    rw [List.getD_eq_getElem?_getD] at this ⊢
    rw [List.getElem?_append_left (by omega)]
    exact this
  · obtain rfl : i = k := by omega
    rw [List.getD_eq_getElem?_getD, List.getElem?_append_right (by omega)]
    simp [h1, hs]

set_option maxHeartbeats 400000 in
theorem labels (n : Nat) (w : World) (hn : n ≤ 65536) :
    Calls Try.prog 14 #[.int .i64 n] w fun e w' => e = .returned (.slice (some ⟨w.heap.size, 0, none⟩) n n) ∧ ∃ ss : List ByteArray, Labelled ss n ∧ Blk w' w.heap.size 9 (ss.map Value.string) ∧ Below w.heap.size w w' := by
  obtain ⟨i0, hi, hz0, hz1, hz2⟩ := info_parts info9
  go_enter Try.func14, Try.ntmps14
  go_wp2_with (at_make; refine wpList_make_full _ rfl _ _ 22 rfl w.heap.size 9 i0 (.string ⟨#[]⟩) 1 Try.underlying22 hi hz0 hz1 _ _ _ _ n rfl rfl rfl rfl (by rw [hz2]; omega) (by unfold maxLen; omega) (Nat.le_refl _) ?_; intro w1 hown1 hgrow1)
  have hb1 := blk_made (z := .string ⟨#[]⟩) rfl hown1
  have hbel1 : Below w.heap.size w w1 := (Below.refl _ _).grown hgrow1 (Nat.le_refl _) (by simp)
  clear hown1 hgrow1 hi hz0 hz1 hz2
  go_loopw [4] (fun i wr => ∃ (k : Nat) (ss : List ByteArray), k ≤ n ∧ i = .int .i64 k ∧ Hid (Labelled ss k) ∧ Blk wr w.heap.size 9 (ss.map Value.string ++ List.replicate (n - ss.length) (.string ⟨#[]⟩)) ∧ Below w.heap.size w wr) (fun i _ => n - (intOf i).toNat)
  case atStart => exact ⟨0, [], Nat.zero_le _, rfl, ⟨rfl, by omega⟩, by simpa using hb1, hbel1⟩
  case round =>
    obtain ⟨k, ss, hk, rfl, HL, hblk, hbel⟩ := hrel
    by_cases hlt : k < n
    · go_wp2_with fail
      refine (Dec.itoa k _ (by omega)).mono ?_
      rintro e w2 ⟨s, rfl, hdec, hb2⟩
      have hblk2 := hblk.below hb2 hblk.lt
      have hbel2 := hbel.trans (hb2.mono hbel.size)
      have hl := HL.out.1
      have hset := hblk2.set ss.length (.string s)
      rw [step_strs ss n s (by omega), hl] at hset
      have HS : Hid (Blk (w2.setCell ⟨w.heap.size, k, none⟩ (.string s)) w.heap.size 9 ((ss ++ [s]).map Value.string ++ List.replicate (n - (ss ++ [s]).length) (.string ⟨#[]⟩))) := hset
      obtain ⟨old, hcell⟩ : ∃ old, w2.cell? ⟨w.heap.size, k, none⟩ = some old := by
        rw [hblk2.cell]
        exact ⟨_, List.getElem?_eq_getElem (by simp; omega)⟩
      have hfr := hblk2.frozen k
      clear hset hblk hblk2 hl hb2
      go_wp2_with fail
      go_roundw
      case rel => exact ⟨k + 1, ss ++ [s], by omega, by go_num, HL.out.snoc hdec, HS.out, hbel2.setCell (Nat.le_refl _) _⟩
      case measure => simp [intOf]; omega
    · obtain rfl : n = k := by omega
      go_wp2_with fail
      go_ret
      have hl := HL.out.1
      exact ⟨rfl, ss, HL.out, by simpa [hl] using hblk, hbel⟩

/-! ### zzPerm -/
/-- 'seen' behind k texts. -/
def seenAt (r : List Nat) (n k : Nat) : List Value := (List.range n).map (fun m => Value.bool (decide (m ∈ r.take k)))
def idxAt (r : List Nat) (n k : Nat) : List Value := (r.take k).map (fun m : Nat => Value.int .i64 (m : Int)) ++ List.replicate (n - k) (.int .i64 0)

theorem mem_take_succ (r : List Nat) (k m : Nat) (hk : k < r.length) : m ∈ r.take (k + 1) ↔ m ∈ r.take k ∨ m = r.getD k 0 := by
  rw [List.take_succ_eq_append_getElem hk, List.mem_append, List.mem_singleton]
  simp [hk]

theorem seen_step (r : List Nat) (n k : Nat) (hk : k < r.length) (hm : r.getD k 0 < n) : (seenAt r n k).set (r.getD k 0) (.bool true) = seenAt r n (k + 1) := by
  apply List.ext_getElem?
  intro j
  unfold seenAt
  rw [List.getElem?_set]
  by_cases hj : j < n
  · by_cases e : r.getD k 0 = j
    · rw [if_pos e, if_pos (by rw [List.length_map, List.length_range]; exact hm)]
      simp only [List.getElem?_map, List.getElem?_range hj, Option.map_some]
      congr 2
      have : j ∈ r.take (k + 1) := (mem_take_succ r k j hk).2 (Or.inr e.symm)
      simp [this]
    · rw [if_neg e]
      simp only [List.getElem?_map, List.getElem?_range hj, Option.map_some]
      congr 2
      have := mem_take_succ r k j hk
      have h2 : (j ∈ r.take (k + 1)) = (j ∈ r.take k) := propext (by rw [this]; exact ⟨fun h => h.resolve_right (fun x => e x.symm), Or.inl⟩)
      simp only [h2]
  · have hn : (List.range n)[j]? = none := by simp; omega
    by_cases e : r.getD k 0 = j
    · omega
    · rw [if_neg e]
      simp [hn]

theorem idx_step (r : List Nat) (n k : Nat) (hk : k < r.length) (hn : r.length = n) : (idxAt r n k).set k (.int .i64 (r.getD k 0 : Nat)) = idxAt r n (k + 1) := by
  unfold idxAt
  have hl : (r.take k).length = k := by simp; omega
  rw [List.set_append_right _ _ (by simp; omega)]
  have e : n - k = (n - (k + 1)) + 1 := by omega
  rw [e, List.replicate_succ, List.take_succ_eq_append_getElem hk, List.length_map, hl, Nat.sub_self, List.set_cons_zero, List.map_append, List.append_assoc]
  simp [hk]

theorem nodup_fresh (r : List Nat) (k : Nat) (hk : k < r.length) (h : r.Nodup) : ¬ r.getD k 0 ∈ r.take k := by
  have h2 := h.sublist (List.take_sublist (k + 1) r)
  rw [List.take_succ_eq_append_getElem hk, List.nodup_append] at h2
  intro hm
  have e : r.getD k 0 = r[k] := by simp [hk]
  rw [e] at hm
  exact h2.2.2 _ hm _ (by simp) rfl

theorem seen_zero (r : List Nat) (n : Nat) : seenAt r n 0 = List.replicate n (.bool false) := by
  unfold seenAt
  apply List.ext_getElem?
  intro j
  by_cases hj : j < n <;> simp [hj]

set_option maxHeartbeats 1000000 in
theorem perm (b off cap n : Nat) (os : List ByteArray) (r : List Nat) (w : World) (hn : n ≤ 65536) (hb : b < w.heap.size)
    (hl : Hid (r.length = n)) (hnd : Hid r.Nodup) (hlt : Hid (∀ m ∈ r, m < n)) (hdec : Hid (∀ j, j < n → DecOf (os.getD j ByteArray.empty) (r.getD j 0)))
    (hc : Hid (∀ j, j < n → w.cell? ⟨b, off + j, none⟩ = some (.string (os.getD j ByteArray.empty)))) :
    Calls Try.prog 12 #[.slice (some ⟨b, off, none⟩) n cap, .int .i64 n] w fun e w' => e = .returned (.tuple #[.slice (some ⟨w.heap.size, 0, none⟩) n n, .bool true]) ∧ Blk w' w.heap.size 3 (r.map (fun m : Nat => Value.int .i64 (m : Int))) ∧ Below w.heap.size w w' := by
  obtain ⟨i3, hi3, hz30, hz31, hz32⟩ := info_parts info3
  obtain ⟨i4, hi4, hz40, hz41, hz42⟩ := info_parts info4
  go_enter Try.func12, Try.ntmps12
  go_wp2_with (first | (at_make; refine wpList_make_full _ rfl _ _ 27 rfl w.heap.size 3 i3 (.int .i64 0) 1 Try.underlying27 hi3 hz30 hz31 _ _ _ _ n rfl rfl rfl rfl (by rw [hz32]; omega) (by unfold maxLen; omega) (Nat.le_refl _) ?_; intro w1 hown1 hgrow1) | (at_make; refine wpList_make_full _ rfl _ _ 32 rfl w1.heap.size 4 i4 (.bool false) 1 Try.underlying32 hi4 hz40 hz41 _ _ _ _ n rfl rfl rfl rfl (by rw [hz42]; omega) (by unfold maxLen; omega) (Nat.le_refl _) ?_; intro w2 hown2 hgrow2))
  have hI1 := blk_made (z := .int .i64 0) rfl hown1
  have hbel1 : Below w.heap.size w w1 := (Below.refl _ _).grown hgrow1 (Nat.le_refl _) (by simp)
  clear hown1 hgrow1
  have hS2 := blk_made (z := .bool false) rfl hown2
  have hbel2 : Below w1.heap.size w1 w2 := (Below.refl _ _).grown hgrow2 (Nat.le_refl _) (by simp)
  have hI2 := hI1.below hbel2 hI1.lt
  have hlt12 := hI1.lt
  have hbel2 := hbel1.trans (hbel2.mono hbel1.size)
  clear hown2 hgrow2 hI1 hbel1 hi3 hz30 hz31 hz32 hi4 hz40 hz41 hz42
  go_loopw [8] (fun j wr => ∃ k : Nat, k ≤ n ∧ j = .int .i64 k ∧ Blk wr w.heap.size 3 (idxAt r n k) ∧ Blk wr w1.heap.size 4 (seenAt r n k) ∧ Below w.heap.size w wr) (fun j _ => n - (intOf j).toNat)
  case atStart => exact ⟨0, Nat.zero_le _, rfl, by simpa [idxAt] using hI2, by rw [seen_zero]; exact hS2, hbel2⟩
  case round =>
    obtain ⟨k, hk, rfl, hI, hS, hbel⟩ := hrel
    by_cases hkn : k < n
    · have hcell : wr.cell? ⟨b, off + k, none⟩ = some (.string (os.getD k ByteArray.empty)) := (hbel.cell (by exact hb)).trans (hc.out k hkn)
      have hd := hdec.out k hkn
      have hkr : k < r.length := by rw [hl.out]; exact hkn
      have hm : r.getD k 0 < n := hlt.out _ (by rw [show r.getD k 0 = r[k] by simp [hkr]]; exact List.getElem_mem _)
      have hfresh := nodup_fresh r k hkr hnd.out
      have cS : wr.cell? ⟨w1.heap.size, r.getD k 0, none⟩ = some (.bool false) := by
        rw [hS.cell, seenAt, List.getElem?_map, List.getElem?_range hm, Option.map_some]
        simp only [hfresh, decide_false]
      have fS := hS.frozen (r.getD k 0)
      have sS := hS.set (r.getD k 0) (.bool true)
      rw [seen_step r n k hkr hm] at sS
      obtain ⟨old, cI⟩ : ∃ old, wr.cell? ⟨w.heap.size, k, none⟩ = some old := by
        rw [hI.cell]
        exact ⟨_, List.getElem?_eq_getElem (by simp [idxAt]; omega)⟩
      have fI := hI.frozen k
      have sI := hI.set k (.int .i64 (r.getD k 0 : Nat))
      rw [idx_step r n k hkr hl.out] at sI
      have nI : (wr.setCell ⟨w1.heap.size, r.getD k 0, none⟩ (.bool true)).heap[w.heap.size]? = wr.heap[w.heap.size]? := heap_setCell_other _ _ _ _ (by simp; omega)
      have SS : Hid (Blk ((wr.setCell ⟨w1.heap.size, r.getD k 0, none⟩ (.bool true)).setCell ⟨w.heap.size, k, none⟩ (.int .i64 (r.getD k 0 : Nat))) w1.heap.size 4 (seenAt r n (k + 1))) := sS.other _ (by simp; omega)
      have SI : Hid (Blk ((wr.setCell ⟨w1.heap.size, r.getD k 0, none⟩ (.bool true)).setCell ⟨w.heap.size, k, none⟩ (.int .i64 (r.getD k 0 : Nat))) w.heap.size 3 (idxAt r n (k + 1))) := by
        have := (hI.kept nI).set k (.int .i64 (r.getD k 0 : Nat))
        rw [idx_step r n k hkr hl.out] at this
        exact this
      clear sS sI nI hI hS hfresh
      generalize r.getD k 0 = m at *
      generalize os.getD k ByteArray.empty = s at *
      go_wp2_with fail
      refine (Dec.parse s m _ hd).mono ?_
      rintro e w3 ⟨rfl, rfl⟩
      go_wp2_with fail
      go_roundw
      case rel => exact ⟨k + 1, by omega, by go_num, SI.out, SS.out, (hbel.setCell (by simp; omega) _).setCell (Nat.le_refl _) _⟩
      case measure => simp [intOf]; omega
    · obtain rfl : n = k := by omega
      go_wp2_with fail
      go_ret2
      exact ⟨rfl, by have := hl.out; simpa [idxAt, ← this] using hI, hbel⟩

end Go.Proofs.Qxb6001298a.Labels
