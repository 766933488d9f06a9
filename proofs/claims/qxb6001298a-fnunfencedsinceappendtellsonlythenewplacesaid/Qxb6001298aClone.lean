/-
  THE WALKS of zzCloneReps, zzCloneRecs, zzCloneStrs.
-/
import Derived.Test.Qxb6001298aBytes
namespace Go.Proofs.Qxb6001298a
open Go.RowKit
set_option linter.unusedVariables false

/-- Place by place, sz cells each, the first k places of cs hold f. -/
def Laid (sz : Nat) (f : Nat → List Value) (k : Nat) (cs : List Value) : Prop := ∀ i, i < k → ∀ j, j < sz → cs[i * sz + j]? = (f i)[j]?

theorem Laid.step {sz : Nat} {f : Nat → List Value} {k : Nat} {cs : List Value} (h : Laid sz f k cs) (hf : (f k).length = sz) (hl : k * sz + sz ≤ cs.length) : Laid sz f (k + 1) (MsgW.spl cs (k * sz) (f k)) := by
  intro i hi j hj
  rw [MsgW.spl_get _ _ _ _ (by omega)]
  by_cases e : i = k
  · subst e
    rw [if_pos (by omega), Nat.add_sub_cancel_left]
  · have : (i + 1) * sz ≤ k * sz := Nat.mul_le_mul_right _ (by omega)
    rw [Nat.add_mul] at this
    rw [if_neg (by omega)]
    exact h i (by omega) j hj

theorem Laid.range {sz : Nat} {f : Nat → List Value} {k : Nat} {cs : List Value} (h : Laid sz f k cs) {w : World} {g : Nat} {E : TypeId} (hb : Blk w g E cs) {i : Nat} (hi : i < k) (hf : (f i).length = sz) : w.rangeAt g (i * sz) (f i) := by
  intro j v hv
  rw [hb.cell, h i hi j (by have := (List.getElem?_eq_some_iff.1 hv).1; omega)]
  exact hv

/-- What is known of a type's zero. -/
theorem info_row {T : TypeId} {n B : Nat} (h : (Try.prog.info? T).map (fun i => (i.zero.map (fun z => (z.cells.size, z.cells.all (·.oneCell'))), i.size, i.bytes)) = some (some (n, true), n, B)) :
    ∃ i z, Try.prog.info? T = some i ∧ i.zero = some z ∧ i.size = n ∧ i.bytes = B ∧ z.cells.size = n ∧ ∀ v ∈ z.cells.toList, v.oneCell' = true := by
  obtain ⟨i, hi, e⟩ := Option.map_eq_some_iff.1 h
  simp only [Prod.mk.injEq] at e
  obtain ⟨e1, e2, e3⟩ := e
  obtain ⟨z, hz, ez⟩ := Option.map_eq_some_iff.1 e1
  simp only [Prod.mk.injEq] at ez
  exact ⟨i, z, hi, hz, e2, e3, ez.1, fun v hv => Array.all_eq_true_iff_forall_mem.1 ez.2 v (by simpa using hv)⟩

theorem made_any {w' : World} {base g n size : Nat} {E : TypeId} {z : Value} (h0 : 0 < size) (hs : z.cells.size = size) (h1 : ∀ v ∈ z.cells.toList, v.oneCell' = true)
    (h : w'.ownsRow base E size (.slice (some ⟨g, 0, none⟩) n n) n (madeCells z.cells (n * size)).toList) : ∃ cs, Blk w' g E cs ∧ cs.length = n * size ∧ ∀ v ∈ cs, v.oneCell' = true := by
  rcases h.2 with ⟨h', _⟩ | ⟨g', cap', cur, h', _, hg, _, _, hcs, htake⟩
  · simp at h'
  · simp only [Value.slice.injEq, Option.some.injEq, Addr.mk.injEq, and_true, true_and] at h'
    obtain ⟨rfl, rfl⟩ := h'
    have e : cur.toList.take (n * size) = cur.toList := List.take_of_length_le (by simp [hcs])
    refine ⟨cur.toList, by simpa [Blk] using hg, by simpa using hcs, ?_⟩
    rw [← e, htake]
    intro v hv
    simp only [madeCells, Array.toList_map, List.mem_map, Array.toList_range] at hv
    obtain ⟨k, _, rfl⟩ := hv
    have hk : k % z.cells.size < z.cells.size := Nat.mod_lt _ (by omega)
    rw [getElem!_pos z.cells (k % z.cells.size) hk]
    exact h1 _ (by simp)

theorem info37 : (Try.prog.info? 37).map (fun i => (i.zero.map (fun z => (z.cells.size, z.cells.all (·.oneCell'))), i.size, i.bytes)) = some (some (6, true), 6, 64) := by kernel_rfl
theorem info35 : (Try.prog.info? 35).map (fun i => (i.zero.map (fun z => (z.cells.size, z.cells.all (·.oneCell'))), i.size, i.bytes)) = some (some (5, true), 5, 48) := by kernel_rfl

theorem repC_one (p : Rep) : ∀ v ∈ repC p, v.oneCell' = true := by
  intro v hv
  simp only [repC, recC, List.mem_cons, List.not_mem_nil, or_false] at hv
  rcases hv with rfl | rfl | rfl | rfl | rfl | rfl <;> rfl
theorem recC_one (p : Rec) : ∀ v ∈ recC p, v.oneCell' = true := fun v hv => repC_one (⟨#[]⟩, p) v (List.mem_cons_of_mem _ hv)

namespace CloneW
set_option maxRecDepth 20000 in
set_option maxHeartbeats 400000 in
theorem reps17 (ao : Option Addr) (b off n cap : Nat) (ps : List Rep) (w : World) (hn : n ≤ 65536) (hr : RepRow w ao b off n ps) :
    Calls Try.prog 17 #[.slice ao n cap] w fun e w' => ∃ ao' g, e = .returned (.slice ao' n n) ∧ RepRow w' ao' g 0 n ps ∧ Below w.heap.size w w' := by
  obtain ⟨i0, z, hi, hz0, hz1, hz2, hz3, hz4⟩ := info_row info37
  cases ao with
  | none =>
    obtain rfl : n = 0 := by
      by_cases h : 0 < n
      · cases hr.at_ h
      · omega
    have hnil := fun (wx : World) => Lib.run_eql_slice_nil (P := Try.prog) wx 38 37 none 0 cap 0 0 Try.underlying38
    go_enter Try.func17, Try.ntmps17
    go_wp2_with fail
    go_ret
    exact ⟨none, 0, rfl, ⟨by omega, by omega, by omega⟩, Below.refl _ _⟩
  | some x =>
    have hnil := fun (wx : World) => Lib.run_eql_slice_nil (P := Try.prog) wx 38 37 (some x) n cap 0 0 Try.underlying38
    go_enter Try.func17, Try.ntmps17
    go_wp2_with (at_make; refine wpList_make_full _ rfl _ _ 38 rfl w.heap.size 37 i0 z 6 Try.underlying38 hi hz0 hz1 _ _ _ _ n rfl rfl rfl rfl (by rw [hz2]; omega) (by unfold maxLen; omega) (Nat.le_refl _) ?_; intro w1 hown1 hgrow1)
    obtain ⟨cs, hB1, hL1, hO1⟩ := made_any (by omega) hz3 hz4 hown1
    have hbel1 : Below w.heap.size w w1 := (Below.refl _ _).grown hgrow1 (Nat.le_refl _) (by simp)
    clear hown1 hgrow1 hi hz0 hz1 hz2 hnil hz3 hz4
    go_loopw [4] (fun i wr => ∃ (k : Nat) (cs : List Value), k ≤ n ∧ i = .int .i64 k ∧ Hid (Blk wr w.heap.size 37 cs ∧ cs.length = n * 6 ∧ Laid 6 (fun i => repC (ps.getD i zeroRep)) k cs ∧ Below w.heap.size w wr)) (fun i _ => n - (intOf i).toNat)
    case atStart => exact ⟨0, cs, Nat.zero_le _, rfl, hB1, hL1, fun i hi => absurd hi (by omega), hbel1⟩
    case round =>
      clear hB1 hL1 hO1 hbel1 cs
      obtain ⟨k, cs, hk, rfl, HH⟩ := hrel
      by_cases hlt : k < n
      · obtain rfl : x = _ := Option.some.inj (hr.at_ (by omega))
        have ⟨hB, hl, hD, hbel⟩ := HH.out
        have hc := (hr.below hbel).cell k hlt
        have HT : Hid (wr.there w.heap.size (k * 6) (repC (ps.getD k zeroRep)).length) := MsgW.Blk.there hB _ _ (by rw [repC_len]; omega)
        have HP : Hid (Blk (wr.setCells w.heap.size (k * 6) (repC (ps.getD k zeroRep))) w.heap.size 37 (MsgW.spl cs (k * 6) (repC (ps.getD k zeroRep))) ∧ (MsgW.spl cs (k * 6) (repC (ps.getD k zeroRep))).length = n * 6 ∧
          Laid 6 (fun i => repC (ps.getD i zeroRep)) (k + 1) (MsgW.spl cs (k * 6) (repC (ps.getD k zeroRep))) ∧ Below w.heap.size w (wr.setCells w.heap.size (k * 6) (repC (ps.getD k zeroRep)))) :=
          ⟨MsgW.Blk.setCells _ _ hB, by rw [MsgW.spl_len, hl], hD.step rfl (by omega), MsgW.below_setCells _ _ hbel (Nat.le_refl _)⟩
        have HI : Hid ((Try.prog.info? 37).map (·.size) = some (repC (ps.getD k zeroRep)).length) := BytesW.size37
        have HO : Hid (∀ v ∈ repC (ps.getD k zeroRep), v.oneCell' = true) := repC_one _
        have HC : Hid (wr.rangeAt b (off + k * 6) (repC (ps.getD k zeroRep))) := hc
        clear hB hl hD hbel HH hr hc
        generalize repC (ps.getD k zeroRep) = C at *
        go_wp2_with (first
          | refine wpList_load_mid rfl 37 (.tmp 20) rfl b (off + k * 6) rfl C _ (by exact HC.out) Try.underlying37 rfl HI.out ?_
          | refine MsgW.wpList_store_midL rfl 37 (.tmp 22) (.tmp 21) rfl w.heap.size (k * 6) C rfl rfl HT.out HI.out HO.out ?_)
        go_roundw
        case rel => exact ⟨k + 1, _, by omega, by go_num, HP.out⟩
        case measure => simp [intOf]; omega
      · obtain rfl : n = k := by omega
        go_wp2_with fail
        go_ret
        have ⟨hB, hl, hD, hbel⟩ := HH.out
        refine ⟨_, w.heap.size, rfl, ⟨fun _ => rfl, fun _ => hB.lt, fun i hi => ?_⟩, hbel⟩
        rw [Nat.zero_add]
        exact hD.range hB hi rfl

set_option maxRecDepth 20000 in
set_option maxHeartbeats 400000 in
theorem recs18 (ao : Option Addr) (b off n cap : Nat) (ps : List Rec) (w : World) (hn : n ≤ 65536) (hr : RecRow w ao b off n ps) :
    Calls Try.prog 18 #[.slice ao n cap] w fun e w' => ∃ ao' g, e = .returned (.slice ao' n n) ∧ RecRow w' ao' g 0 n ps ∧ Below w.heap.size w w' := by
  obtain ⟨i0, z, hi, hz0, hz1, hz2, hz3, hz4⟩ := info_row info35
  cases ao with
  | none =>
    obtain rfl : n = 0 := by
      by_cases h : 0 < n
      · cases hr.at_ h
      · omega
    have hnil := fun (wx : World) => Lib.run_eql_slice_nil (P := Try.prog) wx 39 35 none 0 cap 0 0 Try.underlying39
    go_enter Try.func18, Try.ntmps18
    go_wp2_with fail
    go_ret
    exact ⟨none, 0, rfl, ⟨by omega, by omega, by omega⟩, Below.refl _ _⟩
  | some x =>
    have hnil := fun (wx : World) => Lib.run_eql_slice_nil (P := Try.prog) wx 39 35 (some x) n cap 0 0 Try.underlying39
    go_enter Try.func18, Try.ntmps18
    go_wp2_with (at_make; refine wpList_make_full _ rfl _ _ 39 rfl w.heap.size 35 i0 z 5 Try.underlying39 hi hz0 hz1 _ _ _ _ n rfl rfl rfl rfl (by rw [hz2]; omega) (by unfold maxLen; omega) (Nat.le_refl _) ?_; intro w1 hown1 hgrow1)
    obtain ⟨cs, hB1, hL1, hO1⟩ := made_any (by omega) hz3 hz4 hown1
    have hbel1 : Below w.heap.size w w1 := (Below.refl _ _).grown hgrow1 (Nat.le_refl _) (by simp)
    clear hown1 hgrow1 hi hz0 hz1 hz2 hnil hz3 hz4
    go_loopw [4] (fun i wr => ∃ (k : Nat) (cs : List Value), k ≤ n ∧ i = .int .i64 k ∧ Hid (Blk wr w.heap.size 35 cs ∧ cs.length = n * 5 ∧ Laid 5 (fun i => recC (ps.getD i zeroRec)) k cs ∧ Below w.heap.size w wr)) (fun i _ => n - (intOf i).toNat)
    case atStart => exact ⟨0, cs, Nat.zero_le _, rfl, hB1, hL1, fun i hi => absurd hi (by omega), hbel1⟩
    case round =>
      clear hB1 hL1 hO1 hbel1 cs
      obtain ⟨k, cs, hk, rfl, HH⟩ := hrel
      by_cases hlt : k < n
      · obtain rfl : x = _ := Option.some.inj (hr.at_ (by omega))
        have ⟨hB, hl, hD, hbel⟩ := HH.out
        have hc := (hr.below hbel).cell k hlt
        have HT : Hid (wr.there w.heap.size (k * 5) (recC (ps.getD k zeroRec)).length) := MsgW.Blk.there hB _ _ (by rw [recC_len]; omega)
        have HP : Hid (Blk (wr.setCells w.heap.size (k * 5) (recC (ps.getD k zeroRec))) w.heap.size 35 (MsgW.spl cs (k * 5) (recC (ps.getD k zeroRec))) ∧ (MsgW.spl cs (k * 5) (recC (ps.getD k zeroRec))).length = n * 5 ∧
          Laid 5 (fun i => recC (ps.getD i zeroRec)) (k + 1) (MsgW.spl cs (k * 5) (recC (ps.getD k zeroRec))) ∧ Below w.heap.size w (wr.setCells w.heap.size (k * 5) (recC (ps.getD k zeroRec)))) :=
          ⟨MsgW.Blk.setCells _ _ hB, by rw [MsgW.spl_len, hl], hD.step rfl (by omega), MsgW.below_setCells _ _ hbel (Nat.le_refl _)⟩
        have HI : Hid ((Try.prog.info? 35).map (·.size) = some (recC (ps.getD k zeroRec)).length) := BytesW.size35
        have HO : Hid (∀ v ∈ recC (ps.getD k zeroRec), v.oneCell' = true) := recC_one _
        have HC : Hid (wr.rangeAt b (off + k * 5) (recC (ps.getD k zeroRec))) := hc
        clear hB hl hD hbel HH hr hc
        generalize recC (ps.getD k zeroRec) = C at *
        go_wp2_with (first
          | refine wpList_load_mid rfl 35 (.tmp 20) rfl b (off + k * 5) rfl C _ (by exact HC.out) Try.underlying35 rfl HI.out ?_
          | refine MsgW.wpList_store_midL rfl 35 (.tmp 22) (.tmp 21) rfl w.heap.size (k * 5) C rfl rfl HT.out HI.out HO.out ?_)
        go_roundw
        case rel => exact ⟨k + 1, _, by omega, by go_num, HP.out⟩
        case measure => simp [intOf]; omega
      · obtain rfl : n = k := by omega
        go_wp2_with fail
        go_ret
        have ⟨hB, hl, hD, hbel⟩ := HH.out
        refine ⟨_, w.heap.size, rfl, ⟨fun _ => rfl, fun _ => hB.lt, fun i hi => ?_⟩, hbel⟩
        rw [Nat.zero_add]
        exact hD.range hB hi rfl


set_option maxHeartbeats 400000 in
theorem strs11 (ao : Option Addr) (b off n cap : Nat) (ss : List ByteArray) (w : World) (hn : n ≤ 65536) (hl : ss.length = n) (hr : Strs.Row w ao b off n ss) :
    Calls Try.prog 11 #[.slice ao n cap] w fun e w' => ∃ ao' g, e = .returned (.slice ao' n n) ∧ Strs.Row w' ao' g 0 n ss ∧ Below w.heap.size w w' := by
  cases ao with
  | none =>
    obtain rfl : n = 0 := by
      by_cases h : 0 < n
      · cases hr.at_ h
      · omega
    have hnil := fun (wx : World) => Lib.run_eql_slice_nil (P := Try.prog) wx 22 9 none 0 cap 0 0 Try.underlying22
    go_enter Try.func11, Try.ntmps11
    go_wp2_with fail
    go_ret
    exact ⟨none, 0, rfl, ⟨by omega, by omega, by omega⟩, Below.refl _ _⟩
  | some x =>
    by_cases h0 : 0 < n
    · obtain rfl : x = _ := Option.some.inj (hr.at_ h0)
      refine (Strs.clone b off n cap ss w hn (hr.lt h0) hl hr.cell).mono ?_
      rintro e w' ⟨rfl, h1, h2⟩
      exact ⟨_, w.heap.size, rfl, ⟨fun _ => rfl, fun _ => h1.lt, fun i hi => by
        rw [Nat.zero_add, h1.cell, List.getElem?_map, List.getElem?_eq_getElem (by omega)]
        simp [List.getD, List.getElem?_eq_getElem (show i < ss.length by omega)]⟩, h2⟩
    · obtain rfl : n = 0 := by omega
      obtain ⟨i0, hi, hz0, hz1, hz2⟩ := info_parts Labels.info9
      have hnil := fun (wx : World) => Lib.run_eql_slice_nil (P := Try.prog) wx 22 9 (some x) 0 cap 0 0 Try.underlying22
      go_enter Try.func11, Try.ntmps11
      go_wp2_with (at_make; refine wpList_make_full _ rfl _ _ 22 rfl w.heap.size 9 i0 (.string ⟨#[]⟩) 1 Try.underlying22 hi hz0 hz1 _ _ _ _ 0 rfl rfl rfl rfl (by omega) (by unfold maxLen; omega) (Nat.le_refl _) ?_; intro w1 hown1 hgrow1)
      have hbel1 : Below w.heap.size w w1 := (Below.refl _ _).grown hgrow1 (Nat.le_refl _) (by simp)
      clear hown1 hgrow1 hi hz0 hz1 hz2 hnil
      go_loopw [4] (fun i wr => i = .int .i64 0 ∧ wr = w1) (fun i _ => 0)
      case atStart => exact ⟨rfl, rfl⟩
      case round =>
        obtain ⟨rfl, rfl⟩ := hrel
        go_wp2_with fail
        go_ret
        exact ⟨_, w.heap.size, rfl, ⟨by omega, by omega, by omega⟩, hbel1⟩

end CloneW
end Go.Proofs.Qxb6001298a
