/-
  THE WALK of zzMsg: the message that a law builds of plain parts.
-/
import Derived.Test.Qxb6001298aClone
import Derived.Deep.RegionWith
namespace Go.Proofs.Qxb6001298a
open Go.RowKit
set_option linter.unusedVariables false

/-- The nodes of a message, name by name. -/
def nodesL (ss : List ByteArray) (rs : List Rec) : Nat → List (ByteArray × Rec)
  | 0 => []
  | k + 1 => updR (nodesL ss rs k) (ss.getD k ByteArray.empty) (rs.getD k zeroRec)

namespace MsgW
theorem RelAt.kept {w w' : World} {ao : Option Addr} {gR L : Nat} {rs : List Rep} (h : RelAt w ao gR L rs) (hb : 0 < L → w'.heap[gR]? = w.heap[gR]?) (hs : w'.heap.size = w.heap.size) : RelAt w' ao gR L rs where
  at_ := h.at_
  lt := fun h0 => by rw [hs]; exact h.lt h0
  len := h.len
  row := fun i hi => by
    obtain ⟨D, h1, h2, h3, h4⟩ := h.row i hi
    refine ⟨D, h1, h2, h3, fun j v hv => ?_⟩
    have := h4 j v hv
    simp only [World.cell?] at this ⊢
    rw [hb (by omega)]
    exact this
end MsgW

namespace MakeW
open MsgW

theorem zero67 : ((Try.prog.info? 67).bind (·.zero)).map (fun z => (z.cells.size, z.cells.all (·.oneCell'), z.cells[50]?)) = some (61, true, some (.map none)) := by kernel_rfl
theorem zero67_of :
    ∃ Z : List Value, Z.length = 61 ∧ (∀ v ∈ Z, v.oneCell' = true) ∧ Z[50]? = some (.map none) ∧ ∀ w, (Instr.alloc 67 true (.tuple #[])).run Try.prog w = .ok (.pointer (some ⟨w.heap.size, 0, none⟩)) (w.alloc (.cells Z.toArray 67)) := by
  obtain ⟨z, hz, e⟩ := Option.map_eq_some_iff.1 zero67
  obtain ⟨i, hi, hzi⟩ := Option.bind_eq_some_iff.1 hz
  simp only [Prod.mk.injEq] at e
  refine ⟨z.cells.toList, by simpa using e.1, ?_, by simpa using e.2.2, fun w => ?_⟩
  · intro v hv
    exact Array.all_eq_true'.1 e.2.1 v (by simpa using hv)
  · simpa using run_alloc_big w 67 i z hi hzi

theorem rec24 (R : Rec) (w : World) : Calls Try.prog 24 #[.agg (recC R).toArray] w fun o w' => o = .returned (.agg (recC R).toArray) ∧ Below w.heap.size w w' := by
  obtain ⟨s, e, i, u, t⟩ := R
  exact RecW.rec24 s e i u t w

theorem info81 : (Try.prog.info? 81).map (fun i => (i.zero.map (fun z => (z.cells.size, z.cells.all (·.oneCell'))), i.size, decide (i.bytes ≤ 65536))) = some (some (34, true), 34, true) := by kernel_rfl
theorem info81_of : ∃ i z, Try.prog.info? 81 = some i ∧ i.zero = some z ∧ i.size = 34 ∧ i.bytes ≤ 65536 ∧ z.cells.size = 34 ∧ ∀ v ∈ z.cells.toList, v.oneCell' = true := by
  obtain ⟨i, hi, e⟩ := Option.map_eq_some_iff.1 info81
  simp only [Prod.mk.injEq, decide_eq_true_eq] at e
  obtain ⟨e1, e2, e3⟩ := e
  obtain ⟨z, hz, ez⟩ := Option.map_eq_some_iff.1 e1
  simp only [Prod.mk.injEq] at ez
  exact ⟨i, z, hi, hz, e2, e3, ez.1, fun v hv => Array.all_eq_true_iff_forall_mem.1 ez.2 v (by simpa using hv)⟩

/-- The first k places of the relayed reports are laid. -/
def RelL (ps : List Rep) (k : Nat) (cs : List Value) : Prop := ∀ i, i < k → cs[i * 34]? = some (.string (ps.getD i zeroRep).1) ∧ ∀ j, j < 5 → cs[i * 34 + 18 + j]? = (recC (ps.getD i zeroRep).2)[j]?

theorem RelL.step {ps : List Rep} {k : Nat} {cs : List Value} (h : RelL ps k cs) (hl : k * 34 + 34 ≤ cs.length) : RelL ps (k + 1) (spl (cs.set (k * 34) (.string (ps.getD k zeroRep).1)) (k * 34 + 18) (recC (ps.getD k zeroRep).2)) := by
  have hr := recC_len (ps.getD k zeroRep).2
  intro i hi
  by_cases e : i = k
  · subst e
    refine ⟨?_, fun j hj => ?_⟩
    · rw [spl_get _ _ _ _ (by rw [List.length_set, hr]; omega), if_neg (by omega), List.getElem?_set_self (by omega)]
    · rw [spl_get _ _ _ _ (by rw [List.length_set, hr]; omega), if_pos (by omega), Nat.add_sub_cancel_left]
  · obtain ⟨h1, h2⟩ := h i (by omega)
    refine ⟨?_, fun j hj => ?_⟩
    · rw [spl_get _ _ _ _ (by rw [List.length_set, hr]; omega), if_neg (by omega), List.getElem?_set_ne (by omega)]
      exact h1
    · rw [spl_get _ _ _ _ (by rw [List.length_set, hr]; omega), if_neg (by omega), List.getElem?_set_ne (by omega)]
      exact h2 j hj

theorem RelL.at_ {ps : List Rep} {n : Nat} {cs : List Value} (h : RelL ps n cs) (hl : cs.length = n * 34) (ho : ∀ v ∈ cs, v.oneCell' = true) (hp : ps.length = n) {w : World} {g : Nat} (hb : Blk w g 81 cs) : RelAt w (some ⟨g, 0, none⟩) g n ps where
  at_ := fun _ => rfl
  lt := fun _ => hb.lt
  len := hp
  row := fun i hi => by
    obtain ⟨h1, h2⟩ := h i hi
    have hl' : ((cs.drop (i * 34)).take 34).length = 34 := by simp; omega
    have ho' : ∀ v ∈ (cs.drop (i * 34)).take 34, v.oneCell' = true := fun v hv => ho v (List.mem_of_mem_drop (List.mem_of_mem_take hv))
    refine ⟨(cs.drop (i * 34)).take 34, hl', ho', ⟨by simp; omega, ?_, ?_, fun v hv => ho' v (List.mem_of_mem_take hv)⟩, hb.range _ _⟩
    · rw [List.getElem?_take, if_pos (by omega), List.getElem?_take, if_pos (by omega), List.getElem?_drop, Nat.add_zero]
      exact h1
    · apply List.ext_getElem?
      intro j
      by_cases hj : j < 5
      · rw [List.getElem?_take, if_pos hj, List.getElem?_drop, List.getElem?_take, if_pos (by omega), List.getElem?_take, if_pos (by omega), List.getElem?_drop]
        have h2' := h2 j hj
        rw [Nat.add_assoc] at h2'
        exact h2'
      · rw [List.getElem?_take, if_neg hj, List.getElem?_eq_none]
        have := recC_len (ps.getD i (⟨#[]⟩, zeroRec)).2
        omega

theorem set_same {l : List Value} {i : Nat} {v : Value} (h : l[i]? = some v) : l.set i v = l := by
  apply List.ext_getElem?
  intro j
  rw [List.getElem?_set]
  by_cases e : i = j
  · subst e
    rw [if_pos rfl, if_pos (List.getElem?_eq_some_iff.1 h).1, h]
  · rw [if_neg e]

theorem isMsg_of {M : List Value} {f : ByteArray} {R : Rec} {nodes rel : Value} (hl : M.length = 61) (ho : ∀ v ∈ M, v.oneCell' = true) (h2 : M[2]? = some (.string f)) (hr : ∀ j, j < 5 → M[20 + j]? = (recC R)[j]?) (h50 : M[50]? = some nodes) (h52 : M[52]? = some rel) : IsMsg M (f, R) nodes rel where
  len := hl
  rep := by
    refine ⟨by simp; omega, ?_, ?_, fun v hv => ho v (List.mem_of_mem_drop (List.mem_of_mem_take hv))⟩
    · rw [List.getElem?_take, if_pos (by omega), List.getElem?_drop]
      exact h2
    · apply List.ext_getElem?
      intro j
      by_cases hj : j < 5
      · rw [List.getElem?_take, if_pos hj, List.getElem?_drop, List.getElem?_take, if_pos (by omega), List.getElem?_drop, ← hr j hj]
        congr 1
        omega
      · rw [List.getElem?_take, if_neg hj, List.getElem?_eq_none]
        have := recC_len R
        show (recC R).length ≤ j
        omega
  nodes := h50
  rel := h52
  one := ho

/-- The message as it is built. -/
theorem isMsg_built {Z : List Value} (hZ1 : Z.length = 61) (hZ2 : ∀ v ∈ Z, v.oneCell' = true) (f : ByteArray) (R : Rec) (nodes rel : Value) (hn : nodes.oneCell' = true) (hr : rel.oneCell' = true) :
    IsMsg (((spl (Z.set 2 (.string f)) 20 (recC R)).set 52 rel).set 50 nodes) (f, R) nodes rel := by
  have hC := recC_len R
  have hl : ((spl (Z.set 2 (.string f)) 20 (recC R)).set 52 rel).length = 61 := by rw [List.length_set, spl_len, List.length_set, hZ1]
  have hl' : (spl (Z.set 2 (.string f)) 20 (recC R)).length = 61 := by rw [spl_len, List.length_set, hZ1]
  have hg := fun j => spl_get (recC R) (Z.set 2 (.string f)) 20 j (by rw [List.length_set, hC]; omega)
  refine isMsg_of (by rw [List.length_set, hl]) ?_ ?_ ?_ ?_ ?_
  · intro v hv
    rcases List.mem_or_eq_of_mem_set hv with h | h
    · rcases List.mem_or_eq_of_mem_set h with h | h
      · refine spl_one _ _ _ (recC_one R) (fun v hv => ?_) v h
        rcases List.mem_or_eq_of_mem_set hv with h | h
        · exact hZ2 v h
        · rw [h]; rfl
      · rw [h]; exact hr
    · rw [h]; exact hn
  · rw [List.getElem?_set_ne (by omega), List.getElem?_set_ne (by omega), hg, if_neg (by omega), List.getElem?_set_self (by omega)]
  · intro j hj
    rw [List.getElem?_set_ne (by omega), List.getElem?_set_ne (by omega), hg, if_pos (by omega), Nat.add_sub_cancel_left]
  · rw [List.getElem?_set_self (by omega)]
  · rw [List.getElem?_set_ne (by omega), List.getElem?_set_self (by omega)]

theorem built_50 {Z : List Value} (hZ1 : Z.length = 61) (f : ByteArray) (R : Rec) (nodes rel : Value) (h : Z[50]? = some nodes) : ((spl (Z.set 2 (.string f)) 20 (recC R)).set 52 rel).set 50 nodes = (spl (Z.set 2 (.string f)) 20 (recC R)).set 52 rel := by
  have hC := recC_len R
  apply set_same
  rw [List.getElem?_set_ne (by omega), spl_get _ _ _ _ (by rw [List.length_set, hC]; omega), if_neg (by omega), List.getElem?_set_ne (by omega)]
  exact h

theorem results19 {tmps : Array Value} {g : Nat} {W : World} {M : List Value} (h : tmps.getD 8 undef = .pointer (some ⟨g, 0, none⟩)) (hb : Blk W g 67 M) (hl : M.length = 61) : (results Try.f19 tmps).run Try.prog W = .ok (.agg M.toArray) W := by
  have hr : W.rangeAt g 0 M := fun j v hv => by rw [Nat.zero_add, hb.cell]; exact hv
  have := run_loadVar_mid (P := Try.prog) W g 0 67 M _ hr Try.underlying67 rfl (by rw [size67, hl])
  have e : Try.f19.results = #[.cell 8 67] := Try.results19
  have h' : tmps[8]?.getD undef = .pointer (some ⟨g, 0, none⟩) := by simpa using h
  clear hr hb
  unfold results
  rw [e]
  generalize (Value.agg M.toArray) = V at *
  simp [h', this, asAddr]

/-- The state of the loop over the names. -/
structure NInv (w : World) (r g9 g8 gR n1 : Nat) (M Z : List Value) (ps : List Rep) (ss : List ByteArray) (rs : List Rec) (k : Nat) (wr : World) : Prop where
  map : MapOf Value.string wr r (valsOf (nodesL ss rs k))
  b9 : Blk wr g9 67 M
  b8 : Blk wr g8 67 Z
  rel : RelAt wr (some ⟨gR, 0, none⟩) gR n1 ps
  bel : Below w.heap.size w wr

theorem NInv.step {w wr w5 : World} {r g9 g8 gR n1 : Nat} {M Z : List Value} {ps : List Rep} {ss : List ByteArray} {rs : List Rec} {k : Nat} {s3 : ByteArray} {R : Rec} (h : NInv w r g9 g8 gR n1 M Z ps ss rs k wr)
    (hb5 : Below wr.drew.heap.size wr.drew w5) (hx : nodesL ss rs (k + 1) = updR (nodesL ss rs k) s3 R) (hr : w.heap.size ≤ r) (hgR : gR ≠ r) :
    ∃ o, (Instr.mapUpdate 62 (.map (some r)) (.string s3) (recV R)).run Try.prog w5 = .ok () (putMap w5 r o) ∧ NInv w r g9 g8 gR n1 M Z ps ss rs (k + 1) (putMap w5 r o) := by
  have b0 : Below wr.heap.size wr wr.drew := below_drewN (Below.refl _ _) 1
  have b5 : Below wr.heap.size wr w5 := b0.trans (hb5.mono b0.size)
  have hm5 := MapW.MapOf_below h.map b5 (MapW.MapOf_lt h.map)
  have h9 := h.b9.below b5 h.b9.lt
  have h8 := h.b8.below b5 h.b8.lt
  have hl := h.rel.below b5
  have hb := h.bel.trans (b5.mono h.bel.size)
  obtain ⟨o, hrun, hm6⟩ := MapW.upd62 w5 r _ s3 (recV R) hm5
  rw [updL_vals, ← hx] at hm6
  refine ⟨o, hrun, hm6, h9.kept (MapW.putMap_other _ _ _ _ (ne_of_map h9 hm5)), h8.kept (MapW.putMap_other _ _ _ _ (ne_of_map h8 hm5)), hl.kept (fun _ => MapW.putMap_other _ _ _ _ hgR) ?_, hb.grown (MapW.putMap_grown _ _ _) hb.size (by simp; omega)⟩
  simp [putMap]

set_option maxRecDepth 20000 in
set_option maxHeartbeats 2000000 in
theorem msg19 (p0 : Rep) (ao1 ao3 ao4 : Option Addr) (b1 o1 n1 c1 b3 o3 n3 c3 b4 o4 n4 c4 : Nat) (ps : List Rep) (ss : List ByteArray) (rs : List Rec) (w : World)
    (h1 : RepRow w ao1 b1 o1 n1 ps) (h3 : Strs.Row w ao3 b3 o3 n3 ss) (h4 : RecRow w ao4 b4 o4 n4 rs) (m1 : n1 ≤ 65537) (m3 : n3 ≤ 65536) (m4 : n4 ≤ 65536) (hp : ps.length = n1) :
    Calls Try.prog 19 #[.agg (repC p0).toArray, .slice ao1 n1 c1, .slice ao3 n3 c3, .slice ao4 n4 c4] w fun e w' => ∃ M nodes gR, e = .returned (.agg M.toArray) ∧
      IsMsg M p0 nodes (.slice (some ⟨gR, 0, none⟩) n1 n1) ∧ RelAt w' (some ⟨gR, 0, none⟩) gR n1 ps ∧ NodesAt w' w'.heap.size nodes (nodesL ss rs (min n3 n4)) ∧ Below w.heap.size w w' := by
  obtain ⟨f, s, e, i, u, t⟩ := p0
  show Calls Try.prog 19 #[.agg #[.string f, .string s, .int .u64 e, .int .u64 i, .int .u64 u, .bool t], .slice ao1 n1 c1, .slice ao3 n3 c3, .slice ao4 n4 c4] w _
  obtain ⟨Z, hZ1, hZ2, hZ3, hZ4⟩ := zero67_of
  have HZ : Hid (∀ w, (Instr.alloc 67 true (.tuple #[])).run Try.prog w = .ok (.pointer (some ⟨w.heap.size, 0, none⟩)) (w.alloc (.cells Z.toArray 67))) := hZ4
  clear hZ4
  go_enter Try.func19, Try.ntmps19
  go_wp2_with (refine wpList_alloc_big rfl 67 rfl Z HZ.out ?_)
  have b0 : Below w.heap.size w (((w.alloc (.cells #[.string f, .string s, .int .u64 e, .int .u64 i, .int .u64 u, .bool t] 37)).alloc (.cells Z.toArray 67)).alloc (.cells (Z.set 2 (.string f)).toArray 67)) :=
    (((Below.refl _ _).alloc (Nat.le_refl _) _).alloc (by simp) _).alloc (by simp; omega) _
  have B8 : Blk (((w.alloc (.cells #[.string f, .string s, .int .u64 e, .int .u64 i, .int .u64 u, .bool t] 37)).alloc (.cells Z.toArray 67)).alloc (.cells (Z.set 2 (.string f)).toArray 67)) (w.heap.size + 1) 67 Z := by
    have := heap_alloc_new (w.alloc (.cells #[.string f, .string s, .int .u64 e, .int .u64 i, .int .u64 u, .bool t] 37)) (.cells Z.toArray 67)
    refine (Below.heap_alloc _ _ _ (by simp)).trans ?_
    simpa using this
  have B9 : Blk (((w.alloc (.cells #[.string f, .string s, .int .u64 e, .int .u64 i, .int .u64 u, .bool t] 37)).alloc (.cells Z.toArray 67)).alloc (.cells (Z.set 2 (.string f)).toArray 67)) (w.heap.size + 1 + 1) 67 (Z.set 2 (.string f)) := by
    have := heap_alloc_new ((w.alloc (.cells #[.string f, .string s, .int .u64 e, .int .u64 i, .int .u64 u, .bool t] 37)).alloc (.cells Z.toArray 67)) (.cells (Z.set 2 (.string f)).toArray 67)
    simpa [Blk] using this
  refine (rec24 (s, e, i, u, t) _).mono ?_
  rintro x w1 ⟨rfl, hb1⟩
  have B8 := B8.below hb1 B8.lt
  have B9 := B9.below hb1 B9.lt
  have hb1 := b0.trans (hb1.mono b0.size)
  have l8 : w.heap.size ≤ w.heap.size + 1 := by omega
  have l9 : w.heap.size ≤ w.heap.size + 1 + 1 := by omega
  have hne : w.heap.size + 1 ≠ w.heap.size + 1 + 1 := by omega
  clear b0
  generalize w.heap.size + 1 + 1 = g9 at *
  generalize w.heap.size + 1 = g8 at *
  obtain ⟨i0, z, hi, hz0, hz1, hz2, hz3, hz4⟩ := info81_of
  have hC1 := recC_len (s, e, i, u, t)
  have HO : Hid (∀ v ∈ recC (s, e, i, u, t), v.oneCell' = true) := recC_one _
  obtain ⟨C, HC⟩ : ∃ C, Hid (C = recC (s, e, i, u, t)) := ⟨_, rfl⟩
  rw [← HC.out] at hC1 HO ⊢
  have hby : i0.bytes * n1 ≤ 281474976710656 := Nat.le_trans (Nat.mul_le_mul hz2 m1) (by decide)
  have HT : Hid (w1.there g9 20 C.length) := Blk.there B9 _ _ (by simp; omega)
  have HI52 : Hid ((Try.prog.info? 52).map (·.size) = some C.length) := by unfold Hid; rw [size52, hC1]
  have B9' : Hid (Blk (w1.setCells g9 20 C) g9 67 (spl (Z.set 2 (.string f)) 20 C)) := Blk.setCells _ _ B9
  have B8' : Hid (Blk (w1.setCells g9 20 C) g8 67 Z) := B8.kept (setCells_other _ _ _ _ _ hne)
  have hb1' : Hid (Below w.heap.size w (w1.setCells g9 20 C)) := below_setCells _ _ hb1 l9
  clear hb1 B8 B9
  go_wp2_with (first | refine wpList_store_midL rfl 52 (.tmp 22) (.tmp 20) rfl g9 20 C rfl rfl HT.out HI52.out HO.out ?_ | (at_make; refine wpList_make_full _ rfl _ _ 65 rfl w.heap.size 81 i0 z 34 Try.underlying65 hi hz0 hz1 _ _ _ _ n1 rfl rfl rfl rfl hby (by unfold maxLen; omega) (by exact hb1'.out.size) ?_; intro w2 hown2 hgrow2))
  obtain ⟨cs, hB2, hL2, hO2⟩ := made_any (by omega) hz3 hz4 hown2
  have hg : Below (w1.setCells g9 20 C).heap.size (w1.setCells g9 20 C) w2 := (Below.refl _ _).grown hgrow2 (Nat.le_refl _) (by simp)
  have n9 : g9 < (w1.setCells g9 20 C).heap.size := B9'.out.lt
  have n8 : g8 < (w1.setCells g9 20 C).heap.size := B8'.out.lt
  have b9 := B9'.out.below hg n9
  have b8 := B8'.out.below hg n8
  have nR := hb1'.out.size
  have hb2 := hb1'.out.trans (hg.mono nR)
  obtain ⟨M2, HM2⟩ : ∃ M, Hid (M = spl (Z.set 2 (.string f)) 20 C) := ⟨_, rfl⟩
  rw [← HM2.out] at b9
  clear hg hgrow2 hown2 hi hz0 hz1 hz2 hz3 hz4 B9' B8' hb1' HT HI52 HO
  generalize (w1.setCells g9 20 C).heap.size = gR at *
  go_loopw [11] (fun i wr => ∃ (k : Nat) (cs : List Value), k ≤ n1 ∧ i = .int .i64 k ∧ Hid (Blk wr gR 81 cs ∧ cs.length = n1 * 34 ∧ (∀ v ∈ cs, v.oneCell' = true) ∧ RelL ps k cs ∧ Blk wr g9 67 M2 ∧ Blk wr g8 67 Z ∧ Below w.heap.size w wr)) (fun i _ => n1 - (intOf i).toNat)
  case atStart => exact ⟨0, cs, Nat.zero_le _, rfl, hB2, hL2, hO2, fun i hi => absurd hi (by omega), b9, b8, hb2⟩
  case round =>
    clear hB2 hL2 hO2 b9 b8 hb2 cs
    obtain ⟨k, cs, hk, rfl, HH⟩ := hrel
    by_cases hlt : k < n1
    · obtain rfl := h1.at_ (by omega)
      have ⟨hB, hl, ho, hR, b9, b8, hbel⟩ := HH.out
      have hc := (h1.below hbel).cell k hlt
      have c0 := hc 0 _ rfl
      rw [Nat.add_zero] at c0
      have cR : wr.rangeAt b1 (o1 + k * 6 + 1) (recC (ps.getD k zeroRep).2) := fun j v hv => by
        rw [Nat.add_assoc, Nat.add_comm 1 j]
        exact hc (j + 1) v hv
      have lb1 := h1.lt (by omega)
      have HcR : Hid ((wr.setCell ⟨gR, k * 34, none⟩ (.string (ps.getD k zeroRep).1)).rangeAt b1 (o1 + k * 6 + 1) (recC (ps.getD k zeroRep).2)) := fun j v hv => (World.cell?_setCell_other _ _ _ _ (by simp <;> omega)).trans (cR j v hv)
      have HI35 : Hid ((Try.prog.info? 35).map (·.size) = some (recC (ps.getD k zeroRep).2).length) := BytesW.size35
      have hR' := hR.step (k := k) (by omega)
      obtain ⟨old, hold⟩ : ∃ old, wr.cell? ⟨gR, k * 34, none⟩ = some old := by
        rw [hB.cell]
        exact ⟨_, List.getElem?_eq_getElem (by omega)⟩
      have hfr := hB.frozen (k * 34)
      have hS := hB.set (k * 34) (.string (ps.getD k zeroRep).1)
      have b9' := b9.other (a := ⟨gR, k * 34, none⟩) (.string (ps.getD k zeroRep).1) (by simp; omega)
      have b8' := b8.other (a := ⟨gR, k * 34, none⟩) (.string (ps.getD k zeroRep).1) (by simp; omega)
      have hb' := hbel.setCell (p := ⟨gR, k * 34, none⟩) nR (.string (ps.getD k zeroRep).1)
      have ho' : ∀ v ∈ cs.set (k * 34) (.string (ps.getD k zeroRep).1), v.oneCell' = true := fun v hv => by
        rcases List.mem_or_eq_of_mem_set hv with h | h
        · exact ho v h
        · rw [h]; rfl
      generalize ps.getD k zeroRep = p at *
      obtain ⟨f', R⟩ := p
      have HS : Hid (Blk (wr.setCell ⟨gR, k * 34, none⟩ (.string f')) gR 81 (cs.set (k * 34) (.string f')) ∧ Blk (wr.setCell ⟨gR, k * 34, none⟩ (.string f')) g9 67 M2 ∧ Blk (wr.setCell ⟨gR, k * 34, none⟩ (.string f')) g8 67 Z ∧ Below w.heap.size w (wr.setCell ⟨gR, k * 34, none⟩ (.string f'))) := ⟨hS, b9', b8', hb'⟩
      have HR : Hid (RelL ps (k + 1) (spl (cs.set (k * 34) (.string f')) (k * 34 + 18) (recC R)) ∧ cs.length = n1 * 34 ∧ ∀ v ∈ cs.set (k * 34) (.string f'), v.oneCell' = true) := ⟨hR', hl, ho'⟩
      clear hS b9' b8' hb' hR' ho' hB hl ho hR b9 b8 hbel hc cR HH h1 lb1
      go_wp2_with (refine wpList_load_mid rfl 35 (.tmp 47) rfl b1 (o1 + k * 6 + 1) rfl (recC R) _ (by exact HcR.out) Try.underlying35 rfl HI35.out ?_)
      refine (rec24 R _).mono ?_
      rintro x w3 ⟨rfl, hb3⟩
      have ⟨hS, b9, b8, hb⟩ := HS.out
      have ⟨hR', hl, ho'⟩ := HR.out
      have hS := hS.below hb3 hS.lt
      have b9 := b9.below hb3 b9.lt
      have b8 := b8.below hb3 b8.lt
      have hb := hb.trans (hb3.mono hb.size)
      have HO : Hid (∀ v ∈ recC R, v.oneCell' = true) := recC_one _
      have hC1 := recC_len R
      have HI52 : Hid ((Try.prog.info? 52).map (·.size) = some (recC R).length) := size52
      have HT : Hid (w3.there gR (k * 34 + 18) (recC R).length) := Blk.there hS _ _ (by simp; omega)
      have HP : Hid (Blk (w3.setCells gR (k * 34 + 18) (recC R)) gR 81 (spl (cs.set (k * 34) (.string f')) (k * 34 + 18) (recC R)) ∧ (spl (cs.set (k * 34) (.string f')) (k * 34 + 18) (recC R)).length = n1 * 34 ∧ (∀ v ∈ spl (cs.set (k * 34) (.string f')) (k * 34 + 18) (recC R), v.oneCell' = true) ∧ RelL ps (k + 1) (spl (cs.set (k * 34) (.string f')) (k * 34 + 18) (recC R)) ∧
        Blk (w3.setCells gR (k * 34 + 18) (recC R)) g9 67 M2 ∧ Blk (w3.setCells gR (k * 34 + 18) (recC R)) g8 67 Z ∧ Below w.heap.size w (w3.setCells gR (k * 34 + 18) (recC R))) :=
        ⟨Blk.setCells _ _ hS, by rw [spl_len, List.length_set, hl], spl_one _ _ _ (recC_one R) ho', hR', b9.kept (setCells_other _ _ _ _ _ (by omega)), b8.kept (setCells_other _ _ _ _ _ (by omega)), below_setCells _ _ hb nR⟩
      clear hS b9 b8 hb hR' hl ho' HS HR hb3 HI35 HcR hold hfr c0
      generalize recC R = C' at *
      go_wp2_with (refine wpList_store_midL rfl 52 (.tmp 52) (.tmp 49) rfl gR (k * 34 + 18) C' rfl rfl HT.out HI52.out HO.out ?_)
      go_roundw
      case rel => exact ⟨k + 1, _, by omega, by go_num, HP.out⟩
      case measure => simp [intOf]; omega
    · obtain rfl : n1 = k := by omega
      have ⟨hB, hl, ho, hR, b9, b8, hbel⟩ := HH.out
      have hM2 : M2.length = 61 := by rw [HM2.out, spl_len, List.length_set, hZ1]
      obtain ⟨old, hold⟩ : ∃ old, wr.cell? ⟨g9, 52, none⟩ = some old := by
        rw [b9.cell]
        exact ⟨_, List.getElem?_eq_getElem (by omega)⟩
      have hfr := b9.frozen 52
      have b9' := b9.set 52 (.slice (some ⟨gR, 0, none⟩) n1 n1)
      have b8' := b8.other (a := ⟨g9, 52, none⟩) (.slice (some ⟨gR, 0, none⟩) n1 n1) hne
      have hB' := hB.other (a := ⟨g9, 52, none⟩) (.slice (some ⟨gR, 0, none⟩) n1 n1) (by simp; omega)
      have hb' := hbel.setCell (p := ⟨g9, 52, none⟩) l9 (.slice (some ⟨gR, 0, none⟩) n1 n1)
      have rel := hR.at_ hl ho hp hB'
      obtain ⟨M3, HM3⟩ : ∃ M, Hid (M = M2.set 52 (.slice (some ⟨gR, 0, none⟩) n1 n1)) := ⟨_, rfl⟩
      rw [← HM3.out] at b9'
      have gRr : gR < wr.heap.size := hB.lt
      clear b9 b8 hB hbel hR hl ho HH hB'
      cases ao3 with
      | none =>
        obtain rfl : n3 = 0 := by
          by_cases h : 0 < n3
          · cases h3.at_ h
          · omega
        have HB9 : Hid ((wr.setCell ⟨g9, 52, none⟩ (.slice (some ⟨gR, 0, none⟩) n1 n1)).heap[g9]? = some (.cells M3.toArray 67 (0, 0))) := b9'
        have hM3 : M3.length = 61 := by rw [HM3.out, List.length_set, hM2]
        have HI67a : Hid ((Try.prog.info? 67).map (·.size) = some M3.toArray.size) := by unfold Hid; rw [size67]; simp [hM3]
        have HI67 : Hid ((Try.prog.info? 67).map (·.size) = some M3.length) := by unfold Hid; rw [size67, hM3]
        have HT : Hid ((wr.setCell ⟨g9, 52, none⟩ (.slice (some ⟨gR, 0, none⟩) n1 n1)).there g8 0 M3.length) := Blk.there b8' _ _ (by omega)
        have hmsg := isMsg_built hZ1 hZ2 f (s, e, i, u, t) (.map none) (.slice (some ⟨gR, 0, none⟩) n1 n1) rfl rfl
        rw [built_50 hZ1 f (s, e, i, u, t) (.map none) _ hZ3, ← HC.out, ← HM2.out, ← HM3.out] at hmsg
        have HO : Hid (∀ v ∈ M3, v.oneCell' = true) := hmsg.one
        have bF : Blk ((wr.setCell ⟨g9, 52, none⟩ (.slice (some ⟨gR, 0, none⟩) n1 n1)).setCells g8 0 M3) g8 67 M3 := by
          have := Blk.setCells M3 0 b8'
          rwa [spl_whole _ _ (by omega)] at this
        have hbF := below_setCells M3 0 hb' l8
        have relF : RelAt ((wr.setCell ⟨g9, 52, none⟩ (.slice (some ⟨gR, 0, none⟩) n1 n1)).setCells g8 0 M3) (some ⟨gR, 0, none⟩) gR n1 ps := rel.kept (fun _ => setCells_other _ _ _ _ _ (by omega)) (setCells_size _ _ _ _)
        clear b9' b8' rel
        go_wp2_with (first | refine wpList_load_row rfl 67 (.tmp 9) rfl g9 rfl 67 M3.toArray (0, 0) _ HB9.out Try.underlying67 rfl HI67a.out ?_ | refine wpList_store_midL rfl 67 (.tmp 8) (.tmp 83) rfl g8 0 M3 rfl rfl HT.out HI67.out HO.out ?_)
        exact bodyPost_ret (results19 rfl bF hM3) rfl ⟨M3, _, gR, rfl, hmsg, relF, Or.inl ⟨rfl, by rw [Nat.zero_min]; rfl⟩, hbF⟩
      | some x =>
        have hmm := @run_makeMap Try.prog
        have ha : Below (wr.setCell ⟨g9, 52, none⟩ (.slice (some ⟨gR, 0, none⟩) n1 n1)).heap.size (wr.setCell ⟨g9, 52, none⟩ (.slice (some ⟨gR, 0, none⟩) n1 n1)) ((wr.setCell ⟨g9, 52, none⟩ (.slice (some ⟨gR, 0, none⟩) n1 n1)).alloc (.map #[] 0)) := (Below.refl _ _).alloc (Nat.le_refl _) _
        have hm0 : MapOf Value.string ((wr.setCell ⟨g9, 52, none⟩ (.slice (some ⟨gR, 0, none⟩) n1 n1)).alloc (.map #[] 0)) wr.heap.size (valsOf (nodesL ss rs 0)) := by
          have := MapW.MapOf_new Value.string (wr.setCell ⟨g9, 52, none⟩ (.slice (some ⟨gR, 0, none⟩) n1 n1))
          rwa [show (wr.setCell ⟨g9, 52, none⟩ (.slice (some ⟨gR, 0, none⟩) n1 n1)).heap.size = wr.heap.size by simp [World.setCell]] at this
        have H0 : Hid (NInv w wr.heap.size g9 g8 gR n1 M3 Z ps ss rs 0 ((wr.setCell ⟨g9, 52, none⟩ (.slice (some ⟨gR, 0, none⟩) n1 n1)).alloc (.map #[] 0))) :=
          ⟨hm0, b9'.below ha b9'.lt, b8'.below ha b8'.lt, rel.below ha, hb'.trans (ha.mono hb'.size)⟩
        have hr0 : w.heap.size ≤ wr.heap.size := by have := hb'.size; simpa [World.setCell] using this
        clear ha hm0 b9' b8' rel hb'
        go_wp2_with fail
        clear hold hfr hmm
        generalize wr.heap.size = r at *
        generalize ((wr.setCell ⟨g9, 52, none⟩ (.slice (some ⟨gR, 0, none⟩) n1 n1)).alloc (.map #[] 0)) = w4 at *
        go_loopw [13] (fun i wr => ∃ k : Nat, k ≤ min n3 n4 ∧ i = .int .i64 k ∧ Hid (NInv w r g9 g8 gR n1 M3 Z ps ss rs k wr)) (fun i _ => n3 - (intOf i).toNat)
        case atStart => exact ⟨0, Nat.zero_le _, rfl, H0⟩
        case round =>
          clear H0
          obtain ⟨k, hk, rfl, HH⟩ := hrel
          by_cases hlt : k < n3 ∧ k < n4
          · obtain ⟨hlt3, hlt4⟩ := hlt
            obtain rfl : x = _ := Option.some.inj (h3.at_ (by omega))
            obtain rfl := h4.at_ (by omega)
            have hbel := HH.out.bel
            have c3 := (h3.below hbel).cell k hlt3
            have hc := (h4.below hbel).cell k hlt4
            have HX : Hid (nodesL ss rs (k + 1) = updR (nodesL ss rs k) (ss.getD k ByteArray.empty) (rs.getD k zeroRec)) := rfl
            generalize ss.getD k ByteArray.empty = s3 at *
            generalize rs.getD k zeroRec = R at *
            obtain ⟨s5, e5, i5, u5, t5⟩ := R
            have d0 := hc 0 _ rfl
            have d1 := hc 1 _ rfl
            have d2 := hc 2 _ rfl
            have d3 := hc 3 _ rfl
            have d4 := hc 4 _ rfl
            simp only [Nat.add_zero] at d0
            have l3 := h3.lt (by omega)
            have l4 := h4.lt (by omega)
            have q1 : (0 : Int) ≤ (k : Int) := by omega
            have q2 : (k : Int) < (n3 : Int) := by omega
            have q3 : (k : Int) < (n4 : Int) := by omega
            have l3' : b3 < wr.heap.size := Nat.lt_of_lt_of_le l3 hbel.size
            clear hc h3 h4 h1 hbel
            go_wp2_with fail
            go_region_with (go_at_call 24; refine (RecW.rec24 s5 e5 i5 u5 t5 _).mono ?_; rintro z5 w5 ⟨rfl, hb5⟩; have c3' : w5.cell? ⟨b3, o3 + k, none⟩ = some (.string s3) := (hb5.cell (p := ⟨b3, o3 + k, none⟩) l3').trans c3; obtain ⟨o, hrun, hI5⟩ := HH.out.step (R := (s5, e5, i5, u5, t5)) hb5 HX.out hr0 (by omega); have hrun' : (Instr.mapUpdate 62 (.map (some r)) (.string s3) (.agg #[.string s5, .int .u64 e5, .int .u64 i5, .int .u64 u5, .bool t5])).run Try.prog w5 = .ok () (putMap w5 r o) := hrun; have HI5 : Hid (NInv w r g9 g8 gR n1 M3 Z ps ss rs (k + 1) (putMap w5 r o)) := hI5; clear hrun hI5 hb5)
            all_goals
              go_wp2_with fail
              go_roundw
              case rel => exact ⟨k + 1, by omega, by go_num, HI5⟩
              case measure => simp [intOf]; omega
          · obtain rfl : k = min n3 n4 := by omega
            have hm := HH.out.map
            have b9 := HH.out.b9
            have b8 := HH.out.b8
            have n9 : g9 ≠ r := ne_of_map b9 hm
            have n8 : g8 ≠ r := ne_of_map b8 hm
            have hM3 : M3.length = 61 := by rw [HM3.out, List.length_set, hM2]
            obtain ⟨old, hold⟩ : ∃ old, wr.cell? ⟨g9, 50, none⟩ = some old := by
              rw [b9.cell]
              exact ⟨_, List.getElem?_eq_getElem (by omega)⟩
            have hfr := b9.frozen 50
            have b9' := b9.set 50 (.map (some r))
            have b8' := b8.other (a := ⟨g9, 50, none⟩) (.map (some r)) hne
            have hm' : MapOf Value.string (wr.setCell ⟨g9, 50, none⟩ (.map (some r))) r (valsOf (nodesL ss rs (min n3 n4))) := MapW.MapOf_kept hm (heap_setCell_other _ _ _ _ (by simp; omega))
            have rel' : RelAt (wr.setCell ⟨g9, 50, none⟩ (.map (some r))) (some ⟨gR, 0, none⟩) gR n1 ps := HH.out.rel.kept (fun _ => heap_setCell_other _ _ _ _ (by simp; omega)) (by simp [World.setCell])
            have hb' := HH.out.bel.setCell (p := ⟨g9, 50, none⟩) l9 (.map (some r))
            have hmsg := isMsg_built hZ1 hZ2 f (s, e, i, u, t) (.map (some r)) (.slice (some ⟨gR, 0, none⟩) n1 n1) rfl rfl
            rw [← HC.out, ← HM2.out, ← HM3.out] at hmsg
            obtain ⟨M4, HM4⟩ : ∃ M, Hid (M = M3.set 50 (.map (some r))) := ⟨_, rfl⟩
            rw [← HM4.out] at hmsg b9'
            have hM4 : M4.length = 61 := by rw [HM4.out, List.length_set, hM3]
            have HB9 : Hid ((wr.setCell ⟨g9, 50, none⟩ (.map (some r))).heap[g9]? = some (.cells M4.toArray 67 (0, 0))) := b9'
            have HI67a : Hid ((Try.prog.info? 67).map (·.size) = some M4.toArray.size) := by unfold Hid; rw [size67]; simp [hM4]
            have HI67 : Hid ((Try.prog.info? 67).map (·.size) = some M4.length) := by unfold Hid; rw [size67, hM4]
            have HT : Hid ((wr.setCell ⟨g9, 50, none⟩ (.map (some r))).there g8 0 M4.length) := Blk.there b8' _ _ (by omega)
            have HO : Hid (∀ v ∈ M4, v.oneCell' = true) := hmsg.one
            have bF : Blk ((wr.setCell ⟨g9, 50, none⟩ (.map (some r))).setCells g8 0 M4) g8 67 M4 := by
              have := Blk.setCells M4 0 b8'
              rwa [spl_whole _ _ (by omega)] at this
            have hbF := below_setCells M4 0 hb' l8
            have relF : RelAt ((wr.setCell ⟨g9, 50, none⟩ (.map (some r))).setCells g8 0 M4) (some ⟨gR, 0, none⟩) gR n1 ps := rel'.kept (fun _ => setCells_other _ _ _ _ _ (by omega)) (setCells_size _ _ _ _)
            have hmF : MapOf Value.string ((wr.setCell ⟨g9, 50, none⟩ (.map (some r))).setCells g8 0 M4) r (valsOf (nodesL ss rs (min n3 n4))) := MapW.MapOf_kept hm' (setCells_other _ _ _ _ _ (by omega))
            have HF : Hid (Blk ((wr.setCell ⟨g9, 50, none⟩ (.map (some r))).setCells g8 0 M4) g8 67 M4 ∧ IsMsg M4 (f, s, e, i, u, t) (.map (some r)) (.slice (some ⟨gR, 0, none⟩) n1 n1) ∧ RelAt ((wr.setCell ⟨g9, 50, none⟩ (.map (some r))).setCells g8 0 M4) (some ⟨gR, 0, none⟩) gR n1 ps ∧
              NodesAt ((wr.setCell ⟨g9, 50, none⟩ (.map (some r))).setCells g8 0 M4) ((wr.setCell ⟨g9, 50, none⟩ (.map (some r))).setCells g8 0 M4).heap.size (.map (some r)) (nodesL ss rs (min n3 n4)) ∧ Below w.heap.size w ((wr.setCell ⟨g9, 50, none⟩ (.map (some r))).setCells g8 0 M4)) :=
              ⟨bF, hmsg, relF, Or.inr ⟨r, rfl, MapW.MapOf_lt hmF, hmF⟩, hbF⟩
            clear b9' b8' rel' hm' hm b9 b8 bF hbF relF hmF hmsg HH h1 h3 h4 hb'
            by_cases q1 : n3 ≤ n4
            · have q2 : min n3 n4 = n3 := Nat.min_eq_left q1
              rw [q2] at hlt hk ⊢
              go_wp2_with (first | refine wpList_load_row rfl 67 (.tmp 9) rfl g9 rfl 67 M4.toArray (0, 0) _ HB9.out Try.underlying67 rfl HI67a.out ?_ | refine wpList_store_midL rfl 67 (.tmp 8) (.tmp 83) rfl g8 0 M4 rfl rfl HT.out HI67.out HO.out ?_)
              exact bodyPost_ret (results19 rfl HF.out.1 hM4) rfl ⟨M4, _, gR, rfl, HF.out.2⟩
            · have q2 : min n3 n4 = n4 := Nat.min_eq_right (by omega)
              rw [q2] at hlt hk ⊢
              go_wp2_with (first | refine wpList_load_row rfl 67 (.tmp 9) rfl g9 rfl 67 M4.toArray (0, 0) _ HB9.out Try.underlying67 rfl HI67a.out ?_ | refine wpList_store_midL rfl 67 (.tmp 8) (.tmp 83) rfl g8 0 M4 rfl rfl HT.out HI67.out HO.out ?_)
              exact bodyPost_ret (results19 rfl HF.out.1 hM4) rfl ⟨M4, _, gR, rfl, HF.out.2⟩

end MakeW
end Go.Proofs.Qxb6001298a
